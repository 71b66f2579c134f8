/-
  THE ARGUMENTS AS ROWS: a slice of bytes, a slice of strings that came in.
-/
import Derived.Test.Qxb6603940aRow
namespace Go.Proofs.Qxb6603940a
open Go.RowKit

theorem addr_plain {w : World} {x : Addr} {v : Value} (h : w.cell? (x.add 0) = some v) : ∃ b off, x = ⟨b, off, none⟩ := by
  obtain ⟨b, off, spot⟩ := x
  have hs : spot = none := by simpa [Addr.add] using World.cell?_spot h
  subst hs
  exact ⟨b, off, rfl⟩

theorem row_bytes {w : World} {x : Addr} {zs : List Int} {len : Nat} (hl : len ≤ zs.length) (hcell : ∀ i, i < zs.length → w.cell? (x.add i) = some (.int .u8 (zs.getD i 0))) (hwz : ∀ n ∈ zs, (Lit.int .u8 n).wf = true) :
    RowAt w.heap.size w (some x) len (fun i => bcell (UInt8.ofNat (zs.getD i 0).toNat)) := by
  intro h0
  obtain ⟨b, off, rfl⟩ := addr_plain (hcell 0 (by omega))
  refine ⟨b, off, rfl, World.block_lt_of_cell? w _ (hcell 0 (by omega)), fun i hi => ?_⟩
  have h1 := hcell i (by omega)
  have h2 := range_u8 hwz i
  rw [Addr.add_lit] at h1
  rw [h1]
  show _ = some (Value.int .u8 _)
  congr 2
  rw [List.getD_eq_getElem?_getD, UInt8.toNat_ofNat']
  omega

theorem row_strings {w : World} {x : Addr} {ss : List ByteArray} {len : Nat} (hl : len ≤ ss.length) (hcell : ∀ i, i < ss.length → w.cell? (x.add i) = some (.string (ss.getD i ByteArray.empty))) :
    RowAt w.heap.size w (some x) len (fun i => Value.string (ss.getD i ByteArray.empty)) := by
  intro h0
  obtain ⟨b, off, rfl⟩ := addr_plain (hcell 0 (by omega))
  refine ⟨b, off, rfl, World.block_lt_of_cell? w _ (hcell 0 (by omega)), fun i hi => ?_⟩
  have h1 := hcell i (by omega)
  rw [Addr.add_lit] at h1
  exact h1

theorem size_getD {ss : List ByteArray} (h : ∀ s ∈ ss, s.size ≤ maxLen) (i : Nat) : (ss.getD i ByteArray.empty).size ≤ maxLen := by
  rw [List.getD_eq_getElem?_getD]
  by_cases hi : i < ss.length
  · rw [List.getElem?_eq_getElem hi]
    exact h _ (List.getElem_mem hi)
  · rw [List.getElem?_eq_none (by omega)]
    exact Nat.zero_le _

end Go.Proofs.Qxb6603940a
