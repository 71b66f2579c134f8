/-
  THE WALK of 'FnSkipDigitsFindsFirstNonDigit'.
-/
import Derived.Test.Qxb6603896aSkip
import Derived.OpenShut
namespace Go.Proofs.Qxb6603896a.fnSkipDigitsFindsFirstNonDigit
open Go.RowKit

theorem bytes_ok (s : ByteArray) (i : Int) (w : World) (hl : s.size ≤ 1048576) :
    Calls Try.prog 5 #[.string s, .int .i64 i] w fun e w' => e = .returned (.bool true) ∧ w' = w := by
  go_enter Try.func5, Try.ntmps5
  go_wp2
  go_ret
  exact ⟨rfl, rfl⟩

theorem bytes_no (s : ByteArray) (i : Int) (w : World) (hl : 1048576 < s.size) (hm : s.size ≤ maxLen) :
    Calls Try.prog 5 #[.string s, .int .i64 i] w fun e w' => e = .returned (.bool false) ∧ w' = w := by
  unfold maxLen at hm
  go_enter Try.func5, Try.ntmps5
  go_wp2
  go_ret
  exact ⟨rfl, rfl⟩

theorem digit_yes (c : Int) (w : World) (h1 : 48 ≤ c) (h2 : c ≤ 57) :
    Calls Try.prog 7 #[.int .u8 c] w fun e w' => e = .returned (.bool true) ∧ w' = w := by
  go_enter Try.func7, Try.ntmps7
  go_wp2
  go_ret
  exact ⟨by simp, rfl⟩

theorem digit_no (c : Int) (w : World) (h : c < 48 ∨ 57 < c) :
    Calls Try.prog 7 #[.int .u8 c] w fun e w' => e = .returned (.bool false) ∧ w' = w := by
  by_cases h1 : c < 48
  · go_enter Try.func7, Try.ntmps7
    go_wp2
    go_ret
    exact ⟨rfl, rfl⟩
  · have h2 : 57 < c := by omega
    have h3 : 48 ≤ c := by omega
    go_enter Try.func7, Try.ntmps7
    go_wp2
    go_ret
    exact ⟨by simp; exact h2, rfl⟩

theorem ret_true {b : Bool} (h : b = true) : Ending.returned (.bool b) = .returned (.bool true) := by rw [h]

theorem walk_in (s : ByteArray) (i : Nat) (hl : s.size ≤ 1048576) (w : World) :
    Calls Try.prog 3 #[.string s, .int .i64 (i : Int)] w fun e w' => e = .returned (.bool true) ∧ Grown w w' := by
  by_cases hi : s.size ≤ i
  · go_enter Try.func3, Try.ntmps3
    go_wp2_with (first | (go_at_call 5; refine (bytes_ok s _ _ hl).mono ?_; rintro e w' ⟨rfl, hw⟩; subst w') | (go_at_call 6; refine (zzskip_any s i _ hl).mono ?_; rintro e w' ⟨r, rfl, hr, hw⟩; subst w'; have HI : Hid (Skips s i r) := hr; clear hr))
    have e := Skips.unique HI.out (Skips.here (dg_out hi))
    go_ret
    exact ⟨ret_true (by simp [e]), Grown.refl _⟩
  · have hi' : i < s.size := by omega
    go_enter Try.func3, Try.ntmps3
    go_wp2_with (first | (go_at_call 5; refine (bytes_ok s _ _ hl).mono ?_; rintro e w' ⟨rfl, hw⟩; subst w') | (go_at_call 6; refine (zzskip_any s i _ hl).mono ?_; rintro e w' ⟨r, rfl, hr, hw⟩; subst w'; have HI : Hid (Skips s i r) := hr; clear hr))
    go_loop [6, 7] (fun v j => ∃ t u : Nat, i ≤ t ∧ t ≤ s.size ∧ j = .int .i64 ((t : Int) - 1) ∧ v = .int .i64 (u : Int) ∧ Skips s t u) (fun _ j => (intOf j + 1).toNat)
    case atStart => exact ⟨s.size, s.size, by omega, Nat.le_refl _, rfl, rfl, Skips.here (dg_out (Nat.le_refl _))⟩
    case round =>
      obtain ⟨t, u, hit, hts, rfl, rfl, hsk⟩ := hrel
      have HK : Hid (Skips s t u) := hsk
      clear hsk
      by_cases hlt : i < t
      · obtain ⟨k, rfl⟩ : ∃ k, t = k + 1 := ⟨t - 1, by omega⟩
        by_cases hd : 48 ≤ (s[k].toNat : Int) ∧ (s[k].toNat : Int) ≤ 57
        · have HD : Hid (dg s k) := ⟨by omega, hd⟩
          obtain ⟨h1, h2⟩ := hd
          go_wp2_with (go_at_call 7; refine (digit_yes _ _ h1 h2).mono ?_; rintro e w' ⟨rfl, hw⟩; subst w')
          go_round
          case rel => exact ⟨k, u, by omega, by omega, rfl, rfl, Skips.step HD.out HK.out⟩
          case measure => simp [intOf]
        · have HD : Hid (¬ dg s k) := fun ⟨_, c⟩ => hd c
          have h1 : (s[k].toNat : Int) < 48 ∨ 57 < (s[k].toNat : Int) := by omega
          clear hd
          go_wp2_with (go_at_call 7; refine (digit_no _ _ h1).mono ?_; rintro e w' ⟨rfl, hw⟩; subst w')
          go_round
          case rel => exact ⟨k, k, by omega, by omega, rfl, rfl, Skips.here HD.out⟩
          case measure => simp [intOf]
      · go_wp2
        have et : t = i := by omega
        subst et
        have e := Skips.unique HI.out HK.out
        go_ret
        exact ⟨ret_true (by simp [e]), Grown.refl _⟩

theorem walk (a0 : ByteArray) (a1 : Int) (w0 : a0.size ≤ maxLen) (w : World) :
    Calls Try.prog 3 #[.string a0, .int .i64 a1] w fun e w' => e = .returned (.bool true) ∧ Grown w w' := by
  by_cases hbig : 1048576 < a0.size
  · go_enter Try.func3, Try.ntmps3
    go_wp2_with (go_at_call 5; refine (bytes_no a0 _ _ hbig w0).mono ?_; rintro e w' ⟨rfl, hw⟩; subst w')
    go_ret
    exact ⟨rfl, Grown.refl _⟩
  · have hl : a0.size ≤ 1048576 := by omega
    by_cases h1 : a1 < 0
    · go_enter Try.func3, Try.ntmps3
      go_wp2_with (go_at_call 5; refine (bytes_ok a0 _ _ hl).mono ?_; rintro e w' ⟨rfl, hw⟩; subst w')
      go_ret
      exact ⟨rfl, Grown.refl _⟩
    · obtain ⟨i, rfl⟩ := Int.eq_ofNat_of_zero_le (Int.not_lt.1 h1)
      exact walk_in a0 i hl w

end Go.Proofs.Qxb6603896a.fnSkipDigitsFindsFirstNonDigit
