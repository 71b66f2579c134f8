/-
  THE WALK of 'FnSkipDigitsSameRunSameEnd'.
-/
import Derived.Test.Qxb6603896aSkip
import Derived.OpenShut
namespace Go.Proofs.Qxb6603896a.fnSkipDigitsSameRunSameEnd
open Go.RowKit

theorem bytes_ok (s : ByteArray) (i j : Int) (w : World) (hl : s.size ≤ 1048576) :
    Calls Try.prog 8 #[.string s, .int .i64 i, .int .i64 j] w fun e w' => e = .returned (.bool true) ∧ w' = w := by
  go_enter Try.func8, Try.ntmps8
  go_wp2
  go_ret
  exact ⟨rfl, rfl⟩

theorem bytes_no (s : ByteArray) (i j : Int) (w : World) (hl : 1048576 < s.size) (hm : s.size ≤ maxLen) :
    Calls Try.prog 8 #[.string s, .int .i64 i, .int .i64 j] w fun e w' => e = .returned (.bool false) ∧ w' = w := by
  unfold maxLen at hm
  go_enter Try.func8, Try.ntmps8
  go_wp2
  go_ret
  exact ⟨rfl, rfl⟩

theorem ret_true {b : Bool} (h : b = true) : Ending.returned (.bool b) = .returned (.bool true) := by rw [h]

theorem walk_in (s : ByteArray) (i j : Nat) (hl : s.size ≤ 1048576) (hij : i ≤ j) (w : World) :
    Calls Try.prog 4 #[.string s, .int .i64 (i : Int), .int .i64 (j : Int)] w fun e w' => e = .returned (.bool true) ∧ Grown w w' := by
  have h1 : ¬ ((j : Int) < (i : Int)) := by omega
  go_enter Try.func4, Try.ntmps4
  go_wp2_with (first | (go_at_call 8; refine (bytes_ok s _ _ _ hl).mono ?_; rintro e w' ⟨rfl, hw⟩; subst w') | (go_at_call 6; refine (zzskip_any s i _ hl).mono ?_; rintro e w' ⟨ri, rfl, hri, hw⟩; subst w'; have HI : Hid (Skips s i ri) := hri; clear hri) | (go_at_call 6; refine (zzskip_any s j _ hl).mono ?_; rintro e w' ⟨rj, rfl, hrj, hw⟩; subst w'; have HJ : Hid (Skips s j rj) := hrj; clear hrj))
  · have e := Skips.same hij HI.out HJ.out (by assumption)
    go_ret
    exact ⟨ret_true (by simp [e]), Grown.refl _⟩
  · have e := HJ.out.1
    go_ret
    exact ⟨ret_true (by simp [e]), Grown.refl _⟩
  · exfalso
    have e := HJ.out.1
    have a : ¬ j ≤ ri := by assumption
    have b : ¬ ri < rj := by assumption
    omega

theorem walk (a0 : ByteArray) (a1 : Int) (a2 : Int) (w0 : a0.size ≤ maxLen) (w : World) :
    Calls Try.prog 4 #[.string a0, .int .i64 a1, .int .i64 a2] w fun e w' => e = .returned (.bool true) ∧ Grown w w' := by
  by_cases hbig : 1048576 < a0.size
  · go_enter Try.func4, Try.ntmps4
    go_wp2_with (go_at_call 8; refine (bytes_no a0 _ _ _ hbig w0).mono ?_; rintro e w' ⟨rfl, hw⟩; subst w')
    go_ret
    exact ⟨rfl, Grown.refl _⟩
  · have hl : a0.size ≤ 1048576 := by omega
    by_cases h1 : a1 < 0
    · go_enter Try.func4, Try.ntmps4
      go_wp2_with (go_at_call 8; refine (bytes_ok a0 _ _ _ hl).mono ?_; rintro e w' ⟨rfl, hw⟩; subst w')
      go_ret
      exact ⟨rfl, Grown.refl _⟩
    · by_cases h2 : a2 < a1
      · have h3 : 0 ≤ a1 := by omega
        go_enter Try.func4, Try.ntmps4
        go_wp2_with (go_at_call 8; refine (bytes_ok a0 _ _ _ hl).mono ?_; rintro e w' ⟨rfl, hw⟩; subst w')
        go_ret
        exact ⟨rfl, Grown.refl _⟩
      · obtain ⟨i, rfl⟩ := Int.eq_ofNat_of_zero_le (Int.not_lt.1 h1)
        obtain ⟨j, rfl⟩ := Int.eq_ofNat_of_zero_le (show 0 ≤ a2 by omega)
        exact walk_in a0 i j hl (by omega) w

end Go.Proofs.Qxb6603896a.fnSkipDigitsSameRunSameEnd
