/-
  THE CONTRACTS of the three guards on lengths ('zzBytes_..').
-/
import Derived.Test.Qxb6603940aRow
namespace Go.Proofs.Qxb6603940a
open Go.RowKit

/-- A guard's end: it answers whether the sum is within the bound; nothing has turned. -/
def GuardEnd (n : Nat) (w : World) (e : Ending) (w' : World) : Prop := e = .returned (.bool (decide (n ≤ 1048576))) ∧ w' = w
theorem GuardEnd.no {n : Nat} (w : World) (h : ¬ n ≤ 1048576) : GuardEnd n w (.returned (.bool false)) w := ⟨by rw [decide_eq_false h], rfl⟩
theorem GuardEnd.yes {n : Nat} (w : World) (h : n ≤ 1048576) : GuardEnd n w (.returned (.bool true)) w := ⟨by rw [decide_eq_true h], rfl⟩

set_option maxHeartbeats 800000 in
theorem guard12_any (a0 : Option Addr) (len0 cap0 : Nat) (last : ByteArray) (ae : Option Addr) (ne ce : Nat) (fe : Nat → ByteArray) (B : Nat) (w : World)
    (h0 : len0 ≤ maxLen) (h1 : last.size ≤ maxLen) (h2 : ne ≤ maxLen) (h3 : ∀ i, (fe i).size ≤ maxLen) (hr : RowAt B w ae ne fun i => Value.string (fe i)) :
    Calls Try.prog 12 #[.slice a0 len0 cap0, .string last, .slice ae ne ce] w (GuardEnd (len0 + last.size + ne + tot fe ne) w) := by
  unfold maxLen at h0 h1 h2 h3
  by_cases hpre : len0 + last.size + ne ≤ 1048576
  · go_enter Try.func12, Try.ntmps12
    go_wp2
    go_loop [7, 8] (fun t i => ∃ k : Nat, k ≤ ne ∧ i = .int .i64 k ∧ t = .int .i64 ((len0 + last.size + ne + tot fe k : Nat) : Int) ∧ len0 + last.size + ne + tot fe k ≤ 1048576) (fun _ i => ne - (intOf i).toNat)
    case atStart => exact ⟨0, Nat.zero_le _, rfl, by simp [tot], by simp [tot]; omega⟩
    case round =>
      obtain ⟨k, hk, rfl, rfl, hb⟩ := hrel
      by_cases hlt : k < ne
      · obtain ⟨b, off, rfl, hbw, hc⟩ := hr (by omega)
        have hce := hc k hlt
        have hs := h3 k
        have HT : Hid (tot fe (k + 1) = tot fe k + (fe k).size) := rfl
        clear hc hr h3
        have HS : Hid (tot fe k + (fe k).size ≤ tot fe ne) := size_le_tot fe hlt
        by_cases h4 : 1048576 < (fe k).size
        · go_wp2
          go_ret
          exact GuardEnd.no _ (by have := HS.out; omega)
        · by_cases h5 : 1048576 < len0 + last.size + ne + tot fe k + (fe k).size
          · go_wp2
            go_ret
            exact GuardEnd.no _ (by have := HS.out; omega)
          · go_wp2
            go_round
            case rel => exact ⟨k + 1, by omega, by go_num, by rw [HT.out]; go_num, by rw [HT.out]; omega⟩
            case measure => simp [intOf]; omega
      · have hkn : k = ne := by omega
        subst hkn
        go_wp2
        go_ret
        exact GuardEnd.yes _ hb
  · go_enter Try.func12, Try.ntmps12
    go_wp2
    all_goals
      go_ret
      exact GuardEnd.no _ (by omega)

theorem guard12_yes (a0 : Option Addr) (len0 cap0 : Nat) (last : ByteArray) (ae : Option Addr) (ne ce : Nat) (fe : Nat → ByteArray) (B : Nat) (w : World)
    (h0 : len0 ≤ maxLen) (h1 : last.size ≤ maxLen) (h2 : ne ≤ maxLen) (h3 : ∀ i, (fe i).size ≤ maxLen) (hr : RowAt B w ae ne fun i => Value.string (fe i)) (hg : len0 + last.size + ne + tot fe ne ≤ 1048576) :
    Calls Try.prog 12 #[.slice a0 len0 cap0, .string last, .slice ae ne ce] w fun e w' => e = .returned (.bool true) ∧ w' = w :=
  (guard12_any a0 len0 cap0 last ae ne ce fe B w h0 h1 h2 h3 hr).mono fun _ _ h => ⟨by rw [h.1, decide_eq_true hg], h.2⟩

theorem guard12_no (a0 : Option Addr) (len0 cap0 : Nat) (last : ByteArray) (ae : Option Addr) (ne ce : Nat) (fe : Nat → ByteArray) (B : Nat) (w : World)
    (h0 : len0 ≤ maxLen) (h1 : last.size ≤ maxLen) (h2 : ne ≤ maxLen) (h3 : ∀ i, (fe i).size ≤ maxLen) (hr : RowAt B w ae ne fun i => Value.string (fe i)) (hg : ¬ len0 + last.size + ne + tot fe ne ≤ 1048576) :
    Calls Try.prog 12 #[.slice a0 len0 cap0, .string last, .slice ae ne ce] w fun e w' => e = .returned (.bool false) ∧ w' = w :=
  (guard12_any a0 len0 cap0 last ae ne ce fe B w h0 h1 h2 h3 hr).mono fun _ _ h => ⟨by rw [h.1, decide_eq_false hg], h.2⟩

set_option maxHeartbeats 800000 in
theorem guard17_any (a0 : Option Addr) (len0 cap0 : Nat) (last : ByteArray) (ae : Option Addr) (ne ce : Nat) (fe : Nat → ByteArray) (kk : Int) (B : Nat) (w : World)
    (h0 : len0 ≤ maxLen) (h1 : last.size ≤ maxLen) (h2 : ne ≤ maxLen) (h3 : ∀ i, (fe i).size ≤ maxLen) (hr : RowAt B w ae ne fun i => Value.string (fe i)) :
    Calls Try.prog 17 #[.slice a0 len0 cap0, .string last, .slice ae ne ce, .int .i64 kk] w (GuardEnd (len0 + last.size + ne + tot fe ne) w) := by
  unfold maxLen at h0 h1 h2 h3
  by_cases hpre : len0 + last.size + ne ≤ 1048576
  · go_enter Try.func17, Try.ntmps17
    go_wp2
    go_loop [9, 10] (fun t i => ∃ k : Nat, k ≤ ne ∧ i = .int .i64 k ∧ t = .int .i64 ((len0 + last.size + ne + tot fe k : Nat) : Int) ∧ len0 + last.size + ne + tot fe k ≤ 1048576) (fun _ i => ne - (intOf i).toNat)
    case atStart => exact ⟨0, Nat.zero_le _, rfl, by simp [tot], by simp [tot]; omega⟩
    case round =>
      obtain ⟨k, hk, rfl, rfl, hb⟩ := hrel
      by_cases hlt : k < ne
      · obtain ⟨b, off, rfl, hbw, hc⟩ := hr (by omega)
        have hce := hc k hlt
        have hs := h3 k
        have HT : Hid (tot fe (k + 1) = tot fe k + (fe k).size) := rfl
        clear hc hr h3
        have HS : Hid (tot fe k + (fe k).size ≤ tot fe ne) := size_le_tot fe hlt
        by_cases h4 : 1048576 < (fe k).size
        · go_wp2
          go_ret
          exact GuardEnd.no _ (by have := HS.out; omega)
        · by_cases h5 : 1048576 < len0 + last.size + ne + tot fe k + (fe k).size
          · go_wp2
            go_ret
            exact GuardEnd.no _ (by have := HS.out; omega)
          · go_wp2
            go_round
            case rel => exact ⟨k + 1, by omega, by go_num, by rw [HT.out]; go_num, by rw [HT.out]; omega⟩
            case measure => simp [intOf]; omega
      · have hkn : k = ne := by omega
        subst hkn
        go_wp2
        go_ret
        exact GuardEnd.yes _ hb
  · go_enter Try.func17, Try.ntmps17
    go_wp2
    all_goals
      go_ret
      exact GuardEnd.no _ (by omega)

theorem guard17_yes (a0 : Option Addr) (len0 cap0 : Nat) (last : ByteArray) (ae : Option Addr) (ne ce : Nat) (fe : Nat → ByteArray) (kk : Int) (B : Nat) (w : World)
    (h0 : len0 ≤ maxLen) (h1 : last.size ≤ maxLen) (h2 : ne ≤ maxLen) (h3 : ∀ i, (fe i).size ≤ maxLen) (hr : RowAt B w ae ne fun i => Value.string (fe i)) (hg : len0 + last.size + ne + tot fe ne ≤ 1048576) :
    Calls Try.prog 17 #[.slice a0 len0 cap0, .string last, .slice ae ne ce, .int .i64 kk] w fun e w' => e = .returned (.bool true) ∧ w' = w :=
  (guard17_any a0 len0 cap0 last ae ne ce fe kk B w h0 h1 h2 h3 hr).mono fun _ _ h => ⟨by rw [h.1, decide_eq_true hg], h.2⟩

theorem guard17_no (a0 : Option Addr) (len0 cap0 : Nat) (last : ByteArray) (ae : Option Addr) (ne ce : Nat) (fe : Nat → ByteArray) (kk : Int) (B : Nat) (w : World)
    (h0 : len0 ≤ maxLen) (h1 : last.size ≤ maxLen) (h2 : ne ≤ maxLen) (h3 : ∀ i, (fe i).size ≤ maxLen) (hr : RowAt B w ae ne fun i => Value.string (fe i)) (hg : ¬ len0 + last.size + ne + tot fe ne ≤ 1048576) :
    Calls Try.prog 17 #[.slice a0 len0 cap0, .string last, .slice ae ne ce, .int .i64 kk] w fun e w' => e = .returned (.bool false) ∧ w' = w :=
  (guard17_any a0 len0 cap0 last ae ne ce fe kk B w h0 h1 h2 h3 hr).mono fun _ _ h => ⟨by rw [h.1, decide_eq_false hg], h.2⟩

set_option maxHeartbeats 800000 in
theorem guard19_any (a0 : Option Addr) (len0 cap0 : Nat) (last : ByteArray) (ae : Option Addr) (ne ce : Nat) (fe : Nat → ByteArray) (B : Nat) (w : World)
    (h0 : len0 ≤ maxLen) (h1 : last.size ≤ maxLen) (h2 : ne ≤ maxLen) (h3 : ∀ i, (fe i).size ≤ maxLen) (hr : RowAt B w ae ne fun i => Value.string (fe i)) :
    Calls Try.prog 19 #[.slice a0 len0 cap0, .string last, .slice ae ne ce] w (GuardEnd (len0 + last.size + ne + tot fe ne) w) := by
  unfold maxLen at h0 h1 h2 h3
  by_cases hpre : len0 + last.size + ne ≤ 1048576
  · go_enter Try.func19, Try.ntmps19
    go_wp2
    go_loop [7, 8] (fun t i => ∃ k : Nat, k ≤ ne ∧ i = .int .i64 k ∧ t = .int .i64 ((len0 + last.size + ne + tot fe k : Nat) : Int) ∧ len0 + last.size + ne + tot fe k ≤ 1048576) (fun _ i => ne - (intOf i).toNat)
    case atStart => exact ⟨0, Nat.zero_le _, rfl, by simp [tot], by simp [tot]; omega⟩
    case round =>
      obtain ⟨k, hk, rfl, rfl, hb⟩ := hrel
      by_cases hlt : k < ne
      · obtain ⟨b, off, rfl, hbw, hc⟩ := hr (by omega)
        have hce := hc k hlt
        have hs := h3 k
        have HT : Hid (tot fe (k + 1) = tot fe k + (fe k).size) := rfl
        clear hc hr h3
        have HS : Hid (tot fe k + (fe k).size ≤ tot fe ne) := size_le_tot fe hlt
        by_cases h4 : 1048576 < (fe k).size
        · go_wp2
          go_ret
          exact GuardEnd.no _ (by have := HS.out; omega)
        · by_cases h5 : 1048576 < len0 + last.size + ne + tot fe k + (fe k).size
          · go_wp2
            go_ret
            exact GuardEnd.no _ (by have := HS.out; omega)
          · go_wp2
            go_round
            case rel => exact ⟨k + 1, by omega, by go_num, by rw [HT.out]; go_num, by rw [HT.out]; omega⟩
            case measure => simp [intOf]; omega
      · have hkn : k = ne := by omega
        subst hkn
        go_wp2
        go_ret
        exact GuardEnd.yes _ hb
  · go_enter Try.func19, Try.ntmps19
    go_wp2
    all_goals
      go_ret
      exact GuardEnd.no _ (by omega)

theorem guard19_yes (a0 : Option Addr) (len0 cap0 : Nat) (last : ByteArray) (ae : Option Addr) (ne ce : Nat) (fe : Nat → ByteArray) (B : Nat) (w : World)
    (h0 : len0 ≤ maxLen) (h1 : last.size ≤ maxLen) (h2 : ne ≤ maxLen) (h3 : ∀ i, (fe i).size ≤ maxLen) (hr : RowAt B w ae ne fun i => Value.string (fe i)) (hg : len0 + last.size + ne + tot fe ne ≤ 1048576) :
    Calls Try.prog 19 #[.slice a0 len0 cap0, .string last, .slice ae ne ce] w fun e w' => e = .returned (.bool true) ∧ w' = w :=
  (guard19_any a0 len0 cap0 last ae ne ce fe B w h0 h1 h2 h3 hr).mono fun _ _ h => ⟨by rw [h.1, decide_eq_true hg], h.2⟩

theorem guard19_no (a0 : Option Addr) (len0 cap0 : Nat) (last : ByteArray) (ae : Option Addr) (ne ce : Nat) (fe : Nat → ByteArray) (B : Nat) (w : World)
    (h0 : len0 ≤ maxLen) (h1 : last.size ≤ maxLen) (h2 : ne ≤ maxLen) (h3 : ∀ i, (fe i).size ≤ maxLen) (hr : RowAt B w ae ne fun i => Value.string (fe i)) (hg : ¬ len0 + last.size + ne + tot fe ne ≤ 1048576) :
    Calls Try.prog 19 #[.slice a0 len0 cap0, .string last, .slice ae ne ce] w fun e w' => e = .returned (.bool false) ∧ w' = w :=
  (guard19_any a0 len0 cap0 last ae ne ce fe B w h0 h1 h2 h3 hr).mono fun _ _ h => ⟨by rw [h.1, decide_eq_false hg], h.2⟩

end Go.Proofs.Qxb6603940a
