/-
  A NAME's ALPHABET, and the contract of 'nameByteOK'.
-/
import Derived.Test.Qxb6604221aRows
import Derived.WalkKit
import Derived.WalkSpells
import Derived.WalkLawsBesides
import Derived.Below
import Derived.Laws.BitsAllLaws
namespace Go.Proofs.Qxb6604221a
open Go.RowKit

/-- A letter, a digit, '-' or '_'. -/
def okc (c : Nat) : Prop := (97 ≤ c ∧ c ≤ 122) ∨ (65 ≤ c ∧ c ≤ 90) ∨ (48 ≤ c ∧ c ≤ 57) ∨ c = 45 ∨ c = 95

theorem fold_nat : ∀ c, c < 256 → ((((c ||| 32 : Nat) : Int) - 97) % 256 < 26 ↔ (97 ≤ c ∧ c ≤ 122) ∨ (65 ≤ c ∧ c ≤ 90)) := by decide +kernel

theorem fold_ok (c : Nat) (hc : c < 256) : ((bits .or .u8 (c : Int) 32 - 97) % 256 < 26 ↔ (97 ≤ c ∧ c ≤ 122) ∨ (65 ≤ c ∧ c ≤ 90)) := by
  have e : bits .or .u8 (c : Int) 32 = ((c ||| 32 : Nat) : Int) := u8_or_nat c 32 hc (by omega)
  rw [e]
  exact fold_nat c hc

theorem ret_bool {b b' : Bool} (h : b = b') : Ending.returned (.bool b) = .returned (.bool b') := by rw [h]

theorem byte_yes (c : Nat) (w : World) (hc : c < 256) (h : okc c) :
    Calls Try.prog 8 #[.int .u8 (c : Int)] w fun e w' => e = .returned (.bool true) ∧ w' = w := by
  have HF : Hid (_) := fold_ok c hc
  have HO : Hid (okc c) := h
  clear h
  go_enter Try.func8, Try.ntmps8
  go_wp2
  · go_ret
    exact ⟨rfl, rfl⟩
  · go_ret
    exact ⟨rfl, rfl⟩
  · go_ret
    exact ⟨rfl, rfl⟩
  · have h1 : 10 ≤ ((c : Int) - 48) % 256 := by assumption
    have h2 : 26 ≤ (bits .or .u8 (c : Int) 32 - 97) % 256 := by assumption
    have h3 : ¬ (c : Int) = 45 := by assumption
    have h4 : ¬ ((97 ≤ c ∧ c ≤ 122) ∨ (65 ≤ c ∧ c ≤ 90)) := fun h => by have := HF.out.2 h; omega
    have h5 : c = 95 := by have := HO.out; unfold okc at this; omega
    go_ret
    exact ⟨by simp [h5], rfl⟩

theorem byte_no (c : Nat) (w : World) (hc : c < 256) (h : ¬ okc c) :
    Calls Try.prog 8 #[.int .u8 (c : Int)] w fun e w' => e = .returned (.bool false) ∧ w' = w := by
  have HF : Hid (_) := fold_ok c hc
  have HO : Hid (¬ okc c) := h
  clear h
  go_enter Try.func8, Try.ntmps8
  go_wp2
  · exfalso
    have h1 : ((c : Int) - 48) % 256 < 10 := by assumption
    have := HO.out
    unfold okc at this
    omega
  · exfalso
    have h2 : (bits .or .u8 (c : Int) 32 - 97) % 256 < 26 := by assumption
    have h3 := HF.out.1 h2
    have := HO.out
    unfold okc at this
    omega
  · exfalso
    have h3 : (c : Int) = 45 := by assumption
    have := HO.out
    unfold okc at this
    omega
  · have h4 : (((c : Int) == 45) || ((c : Int) == 95)) = false := by
      have := HO.out
      unfold okc at this
      simp
      omega
    go_ret
    exact ⟨ret_bool h4, rfl⟩

end Go.Proofs.Qxb6604221a
