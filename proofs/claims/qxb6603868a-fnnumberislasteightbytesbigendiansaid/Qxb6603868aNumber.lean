/-
  THE CONTRACTS of 'number' and 'ZZnumber': over a row of bytes f 0, f 1, ..; over an empty slice. They write nothing.
-/
import Derived.Test.Qxb6603868aRows
import Derived.Test.Qxb6603868aPlain
import Derived.WalkKit
import Derived.WalkSpells
import Derived.WalkLawsBesides
namespace Go.Proofs.Qxb6603868a
open Go.RowKit

theorem ret_int {k : IntKind} {a b : Int} (h : a = b) : Ending.returned (.int k a) = .returned (.int k b) := by rw [h]

theorem number_row (b off len cap : Nat) (f : Nat → Nat) (w : World) (hl : len ≤ 1048576) (hf : ∀ i, f i < 256)
    (hc : ∀ i, i < len → w.cell? ⟨b, off + i, none⟩ = some (.int .u8 (f i : Int))) :
    Calls Try.prog 7 #[.slice (some ⟨b, off, none⟩) len cap] w fun e w' => e = .returned (.int .u64 (numf f len : Int)) ∧ w' = w := by
  go_enter Try.func7, Try.ntmps7
  go_wp2
  go_loop [3, 8] (fun n i => ∃ k : Nat, k ≤ len ∧ i = .int .i64 k ∧ n = .int .u64 (numf f k : Int)) (fun _ i => len - (intOf i).toNat)
  case atStart => exact ⟨0, Nat.zero_le _, rfl, rfl⟩
  case round =>
    obtain ⟨k, hk, rfl, rfl⟩ := hrel
    by_cases hlt : k < len
    · have hcell := hc k hlt
      have hfk := hf k
      have HS : Hid (_) := or_step (numf f k) (f k) hfk
      go_wp2
      go_round
      case rel => exact ⟨k + 1, by omega, by go_num, by rw [HS.out]; rfl⟩
      case measure => simp [intOf]; omega
    · have hkl : Hid (k = len) := by show k = len; omega
      go_wp2
      go_ret
      exact ⟨ret_int (by rw [hkl.out]), rfl⟩

theorem number_none (a : Option Addr) (cap : Nat) (w : World) :
    Calls Try.prog 7 #[.slice a 0 cap] w fun e w' => e = .returned (.int .u64 0) ∧ w' = w := by
  go_enter Try.func7, Try.ntmps7
  go_wp2
  refine wp_loop_rounds 1 ?_
  rw [rounds_succ]
  go_wp2
  go_ret
  exact ⟨rfl, rfl⟩

theorem zznumber_row (b off len cap : Nat) (f : Nat → Nat) (w : World) (hl : len ≤ 1048576) (hf : ∀ i, f i < 256)
    (hc : ∀ i, i < len → w.cell? ⟨b, off + i, none⟩ = some (.int .u8 (f i : Int))) :
    Calls Try.prog 6 #[.slice (some ⟨b, off, none⟩) len cap] w fun e w' => e = .returned (.int .u64 (numf f len : Int)) ∧ w' = w := by
  go_enter Try.func6, Try.ntmps6
  go_wp2_with (go_at_call 7; refine (number_row b off len cap f _ hl hf hc).mono ?_; rintro e w' ⟨rfl, rfl⟩)
  go_ret
  exact ⟨rfl, rfl⟩

theorem zznumber_none (a : Option Addr) (cap : Nat) (w : World) :
    Calls Try.prog 6 #[.slice a 0 cap] w fun e w' => e = .returned (.int .u64 0) ∧ w' = w := by
  go_enter Try.func6, Try.ntmps6
  go_wp2_with (go_at_call 7; refine (number_none a cap _).mono ?_; rintro e w' ⟨rfl, rfl⟩)
  go_ret
  exact ⟨rfl, rfl⟩

end Go.Proofs.Qxb6603868a
