/-
  THE PLAIN RELATION behind 'skipDigits', and the contracts of 'skipDigits', 'ZZskipDigits'.
-/
import Derived.Test.Qxb6603896aRows
import Derived.WalkKit
import Derived.WalkSpells
import Derived.WalkLawsBesides
import Derived.Below
namespace Go.Proofs.Qxb6603896a
open Go.RowKit

/-- At k the text holds an ASCII digit. -/
def dg (s : ByteArray) (k : Nat) : Prop := ∃ h : k < s.size, 48 ≤ (s[k].toNat : Int) ∧ (s[k].toNat : Int) ≤ 57

/-- r is the first place from i on that holds no digit. -/
def Skips (s : ByteArray) (i r : Nat) : Prop := i ≤ r ∧ (∀ k, i ≤ k → k < r → dg s k) ∧ ¬ dg s r

theorem Skips.unique {s : ByteArray} {i r r' : Nat} (h : Skips s i r) (h' : Skips s i r') : r = r' := by
  rcases Nat.lt_trichotomy r r' with c | c | c
  · exact absurd (h'.2.1 r h.1 c) h.2.2
  · exact c
  · exact absurd (h.2.1 r' h'.1 c) h'.2.2

theorem Skips.here {s : ByteArray} {i : Nat} (h : ¬ dg s i) : Skips s i i := ⟨Nat.le_refl _, fun k a b => absurd a (by omega), h⟩

theorem Skips.step {s : ByteArray} {i r : Nat} (h : dg s i) (h' : Skips s (i + 1) r) : Skips s i r := by
  refine ⟨by have := h'.1; omega, fun k a b => ?_, h'.2.2⟩
  by_cases e : k = i
  · subst e; exact h
  · exact h'.2.1 k (by omega) b

theorem dg_out {s : ByteArray} {i : Nat} (h : s.size ≤ i) : ¬ dg s i := fun ⟨a, _⟩ => by omega

/-- From inside the run the end is the same. -/
theorem Skips.same {s : ByteArray} {i j ri rj : Nat} (hij : i ≤ j) (hi : Skips s i ri) (hj : Skips s j rj) (h : j ≤ ri) : rj = ri := by
  rcases Nat.lt_trichotomy rj ri with c | c | c
  · exact absurd (hi.2.1 rj (by have := hj.1; omega) c) hj.2.2
  · exact c
  · exact absurd (hj.2.1 ri h c) hi.2.2

theorem skip_any (s : ByteArray) (i : Nat) (w : World) (hs : s.size ≤ 1048576) :
    Calls Try.prog 9 #[.string s, .int .i64 (i : Int)] w fun e w' => ∃ r : Nat, e = .returned (.int .i64 (r : Int)) ∧ Skips s i r ∧ w' = w := by
  go_enter Try.func9, Try.ntmps9
  go_wp2
  go_loop [1] (fun t => ∃ k : Nat, i ≤ k ∧ (k ≤ s.size ∨ k = i) ∧ (∀ j, i ≤ j → j < k → dg s j) ∧ t = .int .i64 k) (fun t => s.size - (intOf t).toNat)
  case atStart => exact ⟨i, Nat.le_refl _, Or.inr rfl, fun j a b => absurd a (by omega), rfl⟩
  case round =>
    obtain ⟨k, hik, hks, hall, rfl⟩ := hrel
    have HA : Hid (∀ j, i ≤ j → j < k → dg s j) := hall
    clear hall
    by_cases hlt : k < s.size
    · by_cases h1 : 48 ≤ (s[k].toNat : Int)
      · by_cases h2 : (s[k].toNat : Int) ≤ 57
        · go_wp2
          go_round
          case rel =>
            refine ⟨k + 1, by omega, Or.inl (by omega), fun j a b => ?_, by go_num⟩
            by_cases e : j = k
            · subst e; exact ⟨hlt, h1, h2⟩
            · exact HA.out j a (by omega)
          case measure => simp [intOf]; omega
        · have h2' : 57 < (s[k].toNat : Int) := by omega
          go_wp2
          go_ret
          exact ⟨k, rfl, ⟨hik, HA.out, fun ⟨_, _, c⟩ => by omega⟩, rfl⟩
      · have h1' : (s[k].toNat : Int) < 48 := by omega
        go_wp2
        go_ret
        exact ⟨k, rfl, ⟨hik, HA.out, fun ⟨_, c, _⟩ => by omega⟩, rfl⟩
    · have hge : s.size ≤ k := by omega
      go_wp2
      go_ret
      exact ⟨k, rfl, ⟨hik, HA.out, dg_out hge⟩, rfl⟩

theorem zzskip_any (s : ByteArray) (i : Nat) (w : World) (hs : s.size ≤ 1048576) :
    Calls Try.prog 6 #[.string s, .int .i64 (i : Int)] w fun e w' => ∃ r : Nat, e = .returned (.int .i64 (r : Int)) ∧ Skips s i r ∧ w' = w := by
  go_enter Try.func6, Try.ntmps6
  go_wp2_with (go_at_call 9; refine (skip_any s i _ hs).mono ?_; rintro e w' ⟨r, rfl, hr, hw⟩; subst w')
  go_ret
  exact ⟨_, rfl, by assumption, rfl⟩

end Go.Proofs.Qxb6603896a
