/-
  MORE CONTRACTS: 'zzBytesEq' at two equal rows; 'zzCloneStrings' with the value written out.
-/
import Derived.Test.Qxb6603940aGot
namespace Go.Proofs.Qxb6603940a
open Go.RowKit

set_option maxHeartbeats 400000 in
theorem bytesEq_same (ao : Option Addr) (n cap : Nat) (ao' : Option Addr) (cap' : Nat) (f : Nat → UInt8) (w : World) (hn : n ≤ 2097152) (r1 : RowAt w.heap.size w ao n fun i => bcell (f i)) (r2 : RowAt w.heap.size w ao' n fun i => bcell (f i)) :
    Calls Try.prog 18 #[.slice ao n cap, .slice ao' n cap'] w fun e w' => e = .returned (.bool true) ∧ Below w.heap.size w w' := by
  go_enter Try.func18, Try.ntmps18
  go_wp2
  go_loopw [5] (fun i wr => ∃ k : Nat, k ≤ n ∧ i = .int .i64 k ∧ Below w.heap.size w wr) (fun i _ => n - (intOf i).toNat)
  case atStart => exact ⟨0, Nat.zero_le _, rfl, Below.refl _ _⟩
  case round =>
    obtain ⟨k, hk, rfl, hbq⟩ := hrel
    by_cases hlt : k < n
    · obtain ⟨b, o, rfl, hb, hc⟩ := r1 (by omega)
      obtain ⟨b', o', rfl, hb', hc'⟩ := r2 (by omega)
      have c1 := (hbq.cell (p := ⟨b, o + k, none⟩) hb).trans (hc k hlt)
      have c2 := (hbq.cell (p := ⟨b', o' + k, none⟩) hb').trans (hc' k hlt)
      unfold bcell at c1 c2
      clear hc hc' r1 r2
      go_wp2
      go_quiet (fail)
      go_wp2
      go_roundw
      case rel => exact ⟨k + 1, by omega, by go_num, below_drewN hbq _⟩
      case measure => simp [intOf]; omega
    · go_wp2
      go_ret
      exact ⟨rfl, hbq⟩

theorem cloneStrings_nil (cap : Nat) (w : World) :
    Calls Try.prog 15 #[.slice none 0 cap] w fun e w' => e = .returned (.slice none 0 0) ∧ w' = w := by
  have q27 : ∀ (w : World) (a : Option Addr) (n c n' c' : Nat), (binOp .eql 27 (.slice a n c) (.slice none n' c')).run Try.prog w = .ok (.bool a.isNone) w := fun w a n c n' c' => Lib.run_eql_slice_nil w _ _ a n c n' c' Try.underlying27
  go_enter Try.func15, Try.ntmps15
  go_wp2
  go_ret
  exact ⟨rfl, rfl⟩

theorem cloneStrings_none (ao : Option Addr) (len cap : Nat) (fe : Nat → ByteArray) (w : World) (hao : ao.isNone = true) (hr : RowAt w.heap.size w ao len fun i => Value.string (fe i)) :
    Calls Try.prog 15 #[.slice ao len cap] w fun e w' => e = .returned (.slice none len len) ∧ w.heap.size ≤ w'.heap.size ∧ RowAt w'.heap.size w' none len (fun i => Value.string (fe i)) ∧ Below w.heap.size w w' := by
  have h0 : len = 0 := by
    by_cases h : 0 < len
    · obtain ⟨b, off, rfl, _⟩ := hr h
      cases hao
    · omega
  subst h0
  cases ao with
  | none =>
    refine (cloneStrings_nil cap w).mono ?_
    rintro e w' ⟨rfl, rfl⟩
    exact ⟨rfl, Nat.le_refl _, fun h => absurd h (Nat.lt_irrefl 0), Below.refl _ _⟩
  | some x => cases hao

set_option maxHeartbeats 400000 in
theorem cloneStrings_some (ao : Option Addr) (len cap : Nat) (fe : Nat → ByteArray) (w : World) (hao : ao.isNone = false) (hl : len ≤ 1048576) (hr : RowAt w.heap.size w ao len fun i => Value.string (fe i)) :
    Calls Try.prog 15 #[.slice ao len cap] w fun e w' => e = .returned (.slice (some ⟨w.heap.size, 0, none⟩) len len) ∧ w.heap.size < w'.heap.size ∧ RowAt w'.heap.size w' (some ⟨w.heap.size, 0, none⟩) len (fun i => Value.string (fe i)) ∧ Below w.heap.size w w' := by
  have q27 : ∀ (w : World) (a : Option Addr) (n c n' c' : Nat), (binOp .eql 27 (.slice a n c) (.slice none n' c')).run Try.prog w = .ok (.bool a.isNone) w := fun w a n c n' c' => Lib.run_eql_slice_nil w _ _ a n c n' c' Try.underlying27
  obtain ⟨i0, hi, hz0, hz1, hz2⟩ := info_parts info9
  go_enter Try.func15, Try.ntmps15
  go_wp2_with (at_make; refine wpList_make_full _ rfl _ _ 27 rfl _ 9 i0 (.string ByteArray.empty) 1 Try.underlying27 hi hz0 hz1 _ _ _ _ len rfl rfl rfl rfl (by rw [hz2]; omega) (by unfold maxLen; omega) (Nat.le_refl _) ?_; intro w1 hown hgrow)
  have hown0 := partRow_zero (.string ByteArray.empty) rfl (fun i => Value.string (fe i)) len ▸ hown
  have hbel0 : Below w.heap.size w w1 := (Below.refl _ _).grown hgrow (Nat.le_refl _) (fun _ h => by cases h)
  clear hown hgrow
  go_loopw [4] (fun i wr => ∃ k : Nat, k ≤ len ∧ i = .int .i64 k ∧ wr.ownsRow w.heap.size 9 1 (.slice (some ⟨w.heap.size, 0, none⟩) len len) len (partRow (.string ByteArray.empty) (fun i => Value.string (fe i)) len k) ∧ Below w.heap.size w wr) (fun i _ => len - (intOf i).toNat)
  case atStart => exact ⟨0, Nat.zero_le _, rfl, hown0, hbel0⟩
  case round =>
    obtain ⟨k, hk, rfl, hown, hbel⟩ := hrel
    clear hown0 hbel0
    by_cases hlt : k < len
    · obtain ⟨b, off, rfl, hbw, hc⟩ := hr (by omega)
      have hcell := hown.cellAt k (by omega)
      rw [partRow_at _ _ _ _ _ (by omega)] at hcell
      have hfr := hown.frozenAt k
      have hst := (hown.stored k (Value.string (fe k))).1
      rw [partRow_succ _ (fun i => Value.string (fe i)) _ _ hlt] at hst
      have HST : Hid _ := hst
      have hb := (hbel.cell (p := ⟨b, off + k, none⟩) hbw).trans (hc k hlt)
      clear hst hc hr
      go_wp2
      go_roundw
      case rel => exact ⟨k + 1, by omega, by go_num, HST.out, hbel.setCell (Nat.le_refl _) _⟩
      case measure => simp [intOf]; omega
    · have hkl : len = k := by omega
      subst hkl
      rw [partRow_full] at hown
      have hlt' : w.heap.size < wr.heap.size := owns_lt hown _ rfl
      have HR : Hid (RowAt wr.heap.size wr (some ⟨w.heap.size, 0, none⟩) len (fun i => Value.string (fe i))) := fun _ => ⟨w.heap.size, 0, rfl, hlt', fun i hi => by
        rw [Nat.zero_add, hown.cellAt i (by omega)]
        exact rowOf_at _ _ i hi⟩
      clear hown hr
      go_wp2
      go_ret
      exact ⟨rfl, hlt', HR.out, hbel⟩

theorem RowAt.drop {B : Nat} {w : World} {g n : Nat} {c : Nat → Value} (h : RowAt B w (some ⟨g, 0, none⟩) n c) (k : Nat) {ao : Option Addr} (hao : k < n → ao = some ⟨g, k, none⟩) : RowAt B w ao (n - k) (fun i => c (k + i)) := by
  intro h0
  obtain ⟨b, off, e, hb, hc⟩ := h (by omega)
  simp only [Option.some.injEq, Addr.mk.injEq, and_true] at e
  obtain ⟨rfl, rfl⟩ := e
  exact ⟨g, k, hao (by omega), hb, fun i hi => by have := hc (k + i) (by omega); rw [Nat.zero_add] at this; exact this⟩

end Go.Proofs.Qxb6603940a
