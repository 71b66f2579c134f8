/-
  THE CONTRACT of 'ZZFill'.
-/
import Derived.Test.Qxb6603940aFill
namespace Go.Proofs.Qxb6603940a
open Go.RowKit

set_option maxHeartbeats 800000 in
theorem zzfill_any (v : Value) (last : ByteArray) (bs : List UInt8) (ae : Option Addr) (ne ce : Nat) (fe : Nat → ByteArray) (base : Nat) (w : World)
    (hown : w.ownsRow base 5 1 v bs.length (bv bs)) (hb : base ≤ w.heap.size) (hr : RowAt base w ae ne fun i => Value.string (fe i)) (hsz : bs.length + 16 * ne + tot fe ne ≤ 1048576) :
    Calls Try.prog 16 #[v, .string last, .slice ae ne ce] w fun e w' => ∃ v', e = .returned (.tuple #[v', .string (lastOf last fe ne)]) ∧
      w'.ownsRow base 5 1 v' (layK bs fe ne).length (bv (layK bs fe ne)) ∧ Below base w w' := by
  obtain ⟨ao, cap, rfl⟩ := owns_shape hown
  have HO : Hid (w.ownsRow base 5 1 (.slice ao bs.length cap) bs.length (bv bs)) := hown
  have hba : Hid (∀ o, Below base w (w.alloc o)) := fun o => (Below.refl _ _).alloc hb o
  clear hown
  go_enter Try.func16, Try.ntmps16
  go_wp2_with (go_at_call 21; refine (fill_any w.heap.size _ _ last bs ae ne ce fe base _ hb (heap_alloc_new w _) (HO.out.alloc _) (by simp; omega) (hr.below (hba.out _)) hsz).mono ?_; rintro e w1 ⟨rfl, v', hown', hpage, hbel⟩)
  have c1 : w1.cell? ⟨w.heap.size, 1, none⟩ = some v' := by rw [cell_of_row w1 _ 1 _ 39 (0, 0) hpage]; rfl
  have c2 : w1.cell? ⟨w.heap.size, 2, none⟩ = some (.string (lastOf last fe ne)) := by rw [cell_of_row w1 _ 2 _ 39 (0, 0) hpage]; rfl
  have HO' : Hid (w1.ownsRow base 5 1 v' (layK bs fe ne).length (bv (layK bs fe ne))) := hown'
  have HB : Hid (Below base w w1) := (hba.out _).trans hbel
  clear hown' hpage hbel
  go_quiet (fail)
  go_wp2
  go_ret2
  exact ⟨v', rfl, HO'.out, below_drewN HB.out _⟩
end Go.Proofs.Qxb6603940a
