/-
  ROWS OF CELLS that are read: 'RowAt B w ao n c': where there is an element (0 < n) the slice's address is a place below block number B, and its n cells hold c 0, c 1, ..; and what each contract says of them.
-/
import Derived.Test.Qxb6603940aRows
import Derived.Test.Qxb6603940aPlain
import Derived.WalkKit
import Derived.WalkSpells
import Derived.WalkLawsBesides
import Derived.Below
import Derived.OpenShut
import Derived.Lib.AppendStr
import Derived.Lib.SliceRun
import Derived.Deep.QuietTactic
import Derived.BigQuiet
namespace Go.Proofs.Qxb6603940a
open Go.RowKit

def RowAt (B : Nat) (w : World) (ao : Option Addr) (n : Nat) (c : Nat → Value) : Prop :=
  0 < n → ∃ b off, ao = some ⟨b, off, none⟩ ∧ b < B ∧ ∀ i, i < n → w.cell? ⟨b, off + i, none⟩ = some (c i)

theorem RowAt.below {B : Nat} {w w' : World} {ao : Option Addr} {n : Nat} {c : Nat → Value} (h : RowAt B w ao n c) (hb : Below B w w') : RowAt B w' ao n c := by
  intro hn
  obtain ⟨b, off, e, hB, hc⟩ := h hn
  exact ⟨b, off, e, hB, fun i hi => (hb.cell (p := ⟨b, off + i, none⟩) hB).trans (hc i hi)⟩

theorem RowAt.mono {B B' : Nat} {w : World} {ao : Option Addr} {n : Nat} {c : Nat → Value} (h : RowAt B w ao n c) (hB : B ≤ B') : RowAt B' w ao n c := by
  intro hn
  obtain ⟨b, off, e, hb, hc⟩ := h hn
  exact ⟨b, off, e, by omega, hc⟩

theorem RowAt.take {B : Nat} {w : World} {ao : Option Addr} {n m : Nat} {c : Nat → Value} (h : RowAt B w ao n c) (hm : m ≤ n) : RowAt B w ao m c := by
  intro h0
  obtain ⟨b, off, e, hb, hc⟩ := h (by omega)
  exact ⟨b, off, e, hb, fun i hi => hc i (by omega)⟩

/-- Bytes as cells. -/
def bcell (x : UInt8) : Value := .int .u8 (x.toNat : Int)
/-- A list of bytes as cells. -/
def bv (bs : List UInt8) : List Value := bs.map bcell

theorem bv_append (a b : List UInt8) : bv (a ++ b) = bv a ++ bv b := List.map_append
theorem bv_length (a : List UInt8) : (bv a).length = a.length := List.length_map _
theorem bv_str (s : ByteArray) : Lib.strCells s = bv (ebytes s) := rfl
theorem bv_oneCell (bs : List UInt8) : ∀ u ∈ bv bs, u.oneCell' = true := by
  intro u hu
  obtain ⟨_, _, rfl⟩ := List.mem_map.1 hu
  rfl

/-- A slice value that owns a row: its shape, and the row as it is read. -/
theorem row_of_owns {w : World} {base : Nat} {e : TypeId} {v : Value} {n : Nat} {xs : List Value} (h : w.ownsRow base e 1 v n xs) (c : Nat → Value) (hc : ∀ i, i < n → xs[i]? = some (c i)) :
    ∃ ao cap, v = .slice ao n cap ∧ RowAt w.heap.size w ao n c ∧ n ≤ cap := by
  rcases h.2 with ⟨rfl, rfl⟩ | ⟨g, cap, cur, rfl, hb, hg, hcap, _⟩
  · exact ⟨none, 0, rfl, fun h0 => absurd h0 (by omega), Nat.le_refl _⟩
  · refine ⟨some ⟨g, 0, none⟩, cap, rfl, fun _ => ⟨g, 0, rfl, (Array.getElem?_eq_some_iff.1 hg).1, fun i hi => ?_⟩, hcap⟩
    have := h.cellAt i (by omega)
    rw [Nat.zero_add, this]
    exact hc i hi

/-- An owned row stays owned while nothing below a bound behind it turns. -/
theorem owns_below {w w' : World} {base B : Nat} {e : TypeId} {v : Value} {n : Nat} {xs : List Value} (h : w.ownsRow base e 1 v n xs) (hb : Below B w w') (hB : ∀ k, v.ownBlock = some k → k < B) : w'.ownsRow base e 1 v n xs := by
  refine ⟨h.1, ?_⟩
  rcases h.2 with h0 | ⟨g, cap, cur, rfl, hbg, hg, r⟩
  · exact .inl h0
  · exact .inr ⟨g, cap, cur, rfl, hbg, by rw [hb.block g (hB g rfl)]; exact hg, r⟩

theorem owns_lt {w : World} {base : Nat} {e : TypeId} {v : Value} {n : Nat} {xs : List Value} (h : w.ownsRow base e 1 v n xs) : ∀ k, v.ownBlock = some k → k < w.heap.size := fun k hk => (h.lt k hk).2

theorem owns_mono {w : World} {base base' : Nat} {e : TypeId} {v : Value} {n : Nat} {xs : List Value} (h : w.ownsRow base e 1 v n xs) (hb : base' ≤ base) : w.ownsRow base' e 1 v n xs := by
  refine ⟨h.1, ?_⟩
  rcases h.2 with h0 | ⟨g, cap, cur, rfl, hbg, r⟩
  · exact .inl h0
  · exact .inr ⟨g, cap, cur, rfl, by omega, r⟩

/-- Blocks that are no rows of bytes are as they were. -/
def NB (w w' : World) : Prop := ∀ (k : Nat) (cs : Array Value) (t : TypeId) (f : Nat × Nat), t ≠ 5 → w.heap[k]? = some (.cells cs t f) → w'.heap[k]? = some (.cells cs t f)

theorem NB.refl (w : World) : NB w w := fun _ _ _ _ _ h => h
theorem NB.trans {a b c : World} (h : NB a b) (k : NB b c) : NB a c := fun i cs t f ht hi => k i cs t f ht (h i cs t f ht hi)
theorem NB.alloc (w : World) (o : Obj) : NB w (w.alloc o) := fun i cs t f _ hi => by
  rw [Below.heap_alloc w o i (Array.getElem?_eq_some_iff.1 hi).1]; exact hi

/-- Behind an append to an owned row of bytes. -/
theorem NB.grown {w w' : World} {base : Nat} {v : Value} {n : Nat} {xs : List Value} (h : w.ownsRow base 5 1 v n xs) (hg : w.grownBy w' v.ownBlock) : NB w w' := by
  intro i cs t f ht hi
  rw [hg.block i (Array.getElem?_eq_some_iff.1 hi).1 ?_]
  · exact hi
  · intro e
    rcases h.2 with ⟨rfl, _⟩ | ⟨g, cap, cur, rfl, _, hgg, _⟩
    · cases e
    · simp only [Value.ownBlock, Option.some.injEq] at e
      subst e
      rw [hgg] at hi
      simp only [Option.some.injEq, Obj.cells.injEq] at hi
      exact ht hi.2.1.symm

theorem below_owned {w w' w0 : World} {base : Nat} {v : Value} {n : Nat} {xs : List Value} (h : w.ownsRow base 5 1 v n xs) (hg : w.grownBy w' v.ownBlock) (hb : Below base w0 w) (hs : base ≤ w.heap.size) : Below base w0 w' :=
  hb.grown hg hs (fun k hk => (h.lt k hk).1)

theorem info5 : (Try.prog.info? 5).map (fun i => (i.zero, i.size, i.bytes)) = some (some (.int .u8 0), 1, 1) := by kernel_rfl
theorem info9 : (Try.prog.info? 9).map (fun i => (i.zero, i.size, i.bytes)) = some (some (.string ByteArray.empty), 1, 16) := by kernel_rfl

end Go.Proofs.Qxb6603940a
