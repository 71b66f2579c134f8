/-
  WHAT THE THREE LAWS SHARE: bytes as a list; a clone as 'ZZFill' takes it; what 'ZZFill' hands back, as it is read.
-/
import Derived.Test.Qxb6603940aZz
import Derived.Test.Qxb6603940aGuard
namespace Go.Proofs.Qxb6603940a
open Go.RowKit

/-- The first n bytes of fb. -/
def bytesOf (fb : Nat → UInt8) (n : Nat) : List UInt8 := (List.range n).map fb

theorem bytesOf_length (fb : Nat → UInt8) (n : Nat) : (bytesOf fb n).length = n := by simp [bytesOf]
theorem bytesOf_at (fb : Nat → UInt8) {n i : Nat} (h : i < n) : (bytesOf fb n)[i]? = some (fb i) := by simp [bytesOf, h]
theorem rowOf_bytes (fb : Nat → UInt8) (n : Nat) : rowOf (fun i => bcell (fb i)) n = bv (bytesOf fb n) := by
  unfold rowOf bv bytesOf
  rw [List.map_map]
  rfl

/-- A clone of bytes, as 'ZZFill' takes it. -/
theorem clone_owned {w : World} {base : Nat} {v : Value} {fb : Nat → UInt8} {n : Nat} (h : w.ownsRow base 5 1 v n (rowOf (fun i => bcell (fb i)) n)) : w.ownsRow base 5 1 v (bytesOf fb n).length (bv (bytesOf fb n)) := by
  rw [bytesOf_length, ← rowOf_bytes]; exact h

/-- The row that 'ZZFill' hands back, as it is read. -/
theorem got_row {w : World} {base : Nat} {v : Value} {L : List UInt8} (h : w.ownsRow base 5 1 v L.length (bv L)) : ∃ ao cap, v = .slice ao L.length cap ∧ RowAt w.heap.size w ao L.length (fun i => bcell (L.getD i 0)) ∧ L.length ≤ cap :=
  row_of_owns h _ fun i hi => by
    rw [bv, List.getElem?_map, List.getElem?_eq_getElem hi, List.getD_eq_getElem?_getD, List.getElem?_eq_getElem hi]
    rfl

theorem got_cell {w : World} {b off M : Nat} {L : List UInt8} (hc : ∀ i, i < M → w.cell? ⟨b, off + i, none⟩ = some (bcell (L.getD i 0))) (hM : L.length = M) {p : Nat} {x : UInt8} (hp : L[p]? = some x) : p < M ∧ w.cell? ⟨b, off + p, none⟩ = some (.int .u8 (x.toNat : Int)) := by
  have hl : p < L.length := (List.getElem?_eq_some_iff.1 hp).1
  refine ⟨by omega, ?_⟩
  rw [hc p (by omega), List.getD_eq_getElem?_getD, hp]
  rfl

theorem ret_true {b : Bool} (h : b = true) : Ending.returned (.bool b) = .returned (.bool true) := by rw [h]

end Go.Proofs.Qxb6603940a
