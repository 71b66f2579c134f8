/-
  THE CONTRACTS of 'zzCloneBytes', 'zzCloneStrings', 'zzStringsBytes'.
-/
import Derived.Test.Qxb6603940aRow
namespace Go.Proofs.Qxb6603940a
open Go.RowKit

/-- A row of n cells whose first k hold c 0, c 1, .., the others z. -/
def partRow (z : Value) (c : Nat → Value) (n k : Nat) : List Value := (List.range n).map fun p => if p < k then c p else z

theorem partRow_zero (z : Value) (hz : z.cells = #[z]) (c : Nat → Value) (n : Nat) : (madeCells z.cells (n * 1)).toList = partRow z c n 0 := by
  rw [hz, toList_madeCells_one, Nat.mul_one]
  unfold partRow
  apply List.ext_getElem?
  intro i
  by_cases h : i < n
  · simp [h]
  · simp [h]

theorem partRow_at (z : Value) (c : Nat → Value) (n k p : Nat) (hp : p < n) : (partRow z c n k)[p]? = some (if p < k then c p else z) := by
  simp [partRow, hp]

theorem partRow_succ (z : Value) (c : Nat → Value) (n k : Nat) (hk : k < n) : (partRow z c n k).set k (c k) = partRow z c n (k + 1) := by
  apply List.ext_getElem?
  intro p
  rw [List.getElem?_set]
  by_cases hp : p < n
  · rw [partRow_at _ _ _ _ _ hp, partRow_at _ _ _ _ _ hp]
    by_cases e : k = p
    · subst e
      rw [if_pos rfl, if_pos (by simp [partRow]; omega), if_pos (by omega)]
    · rw [if_neg e]
      by_cases h : p < k
      · rw [if_pos h, if_pos (by omega)]
      · rw [if_neg h, if_neg (by omega)]
  · simp [partRow, hp]
    omega

/-- The first n of c as a list. -/
def rowOf (c : Nat → Value) (n : Nat) : List Value := (List.range n).map c

theorem partRow_full (z : Value) (c : Nat → Value) (n : Nat) : partRow z c n n = rowOf c n := by
  unfold partRow rowOf
  apply List.ext_getElem?
  intro i
  by_cases h : i < n
  · simp [h]
  · simp [h]

theorem rowOf_at (c : Nat → Value) (n i : Nat) (h : i < n) : (rowOf c n)[i]? = some (c i) := by simp [rowOf, h]

set_option maxHeartbeats 400000 in
theorem cloneBytes_any (ao : Option Addr) (len cap : Nat) (fb : Nat → UInt8) (w : World) (hl : len ≤ 1048576) (hr : RowAt w.heap.size w ao len fun i => bcell (fb i)) :
    Calls Try.prog 14 #[.slice ao len cap] w fun e w' => ∃ v, e = .returned v ∧ w'.ownsRow w.heap.size 5 1 v len (rowOf (fun i => bcell (fb i)) len) ∧ Below w.heap.size w w' := by
  have q26 : ∀ (w : World) (a : Option Addr) (n c n' c' : Nat), (binOp .eql 26 (.slice a n c) (.slice none n' c')).run Try.prog w = .ok (.bool a.isNone) w := fun w a n c n' c' => Lib.run_eql_slice_nil w _ _ a n c n' c' Try.underlying26
  obtain ⟨i0, hi, hz0, hz1, hz2⟩ := info_parts info5
  cases hao : ao.isNone with
  | true =>
    have h0 : len = 0 := by
      by_cases h : 0 < len
      · obtain ⟨b, off, rfl, _⟩ := hr h
        cases hao
      · omega
    subst h0
    go_enter Try.func14, Try.ntmps14
    go_wp2
    go_ret
    exact ⟨_, rfl, World.ownsRow_nil _ _ _ _, Below.refl _ _⟩
  | false =>
    go_enter Try.func14, Try.ntmps14
    go_wp2_with (at_make; refine wpList_make_full _ rfl _ _ 26 rfl _ 5 i0 (.int .u8 0) 1 Try.underlying26 hi hz0 hz1 _ _ _ _ len rfl rfl rfl rfl (by rw [hz2]; omega) (by unfold maxLen; omega) (Nat.le_refl _) ?_; intro w1 hown hgrow)
    have hown0 := partRow_zero (.int .u8 0) rfl (fun i => bcell (fb i)) len ▸ hown
    have hbel0 : Below w.heap.size w w1 := (Below.refl _ _).grown hgrow (Nat.le_refl _) (fun _ h => by cases h)
    clear hown hgrow
    go_loopw [4] (fun i wr => ∃ k : Nat, k ≤ len ∧ i = .int .i64 k ∧ wr.ownsRow w.heap.size 5 1 (.slice (some ⟨w.heap.size, 0, none⟩) len len) len (partRow (.int .u8 0) (fun i => bcell (fb i)) len k) ∧ Below w.heap.size w wr) (fun i _ => len - (intOf i).toNat)
    case atStart => exact ⟨0, Nat.zero_le _, rfl, hown0, hbel0⟩
    case round =>
      obtain ⟨k, hk, rfl, hown, hbel⟩ := hrel
      clear hown0 hbel0
      by_cases hlt : k < len
      · obtain ⟨b, off, rfl, hbw, hc⟩ := hr (by omega)
        have hcell := hown.cellAt k (by omega)
        rw [partRow_at _ _ _ _ _ (by omega)] at hcell
        have hfr := hown.frozenAt k
        have hst := (hown.stored k (bcell (fb k))).1
        rw [partRow_succ _ (fun i => bcell (fb i)) _ _ hlt] at hst
        have HST : Hid _ := hst
        have hb := (hbel.cell (p := ⟨b, off + k, none⟩) hbw).trans (hc k hlt)
        clear hst hc hr
        unfold bcell at hb
        go_wp2
        go_roundw
        case rel => exact ⟨k + 1, by omega, by go_num, HST.out, hbel.setCell (Nat.le_refl _) _⟩
        case measure => simp [intOf]; omega
      · have hkl : k = len := by omega
        subst hkl
        rw [partRow_full] at hown
        have HO : Hid _ := hown
        clear hown hr
        go_wp2
        go_ret
        exact ⟨_, rfl, HO.out, hbel⟩
set_option maxHeartbeats 400000 in
theorem cloneStrings_any (ao : Option Addr) (len cap : Nat) (fe : Nat → ByteArray) (w : World) (hl : len ≤ 1048576) (hr : RowAt w.heap.size w ao len fun i => Value.string (fe i)) :
    Calls Try.prog 15 #[.slice ao len cap] w fun e w' => ∃ v, e = .returned v ∧ w'.ownsRow w.heap.size 9 1 v len (rowOf (fun i => Value.string (fe i)) len) ∧ Below w.heap.size w w' := by
  have q27 : ∀ (w : World) (a : Option Addr) (n c n' c' : Nat), (binOp .eql 27 (.slice a n c) (.slice none n' c')).run Try.prog w = .ok (.bool a.isNone) w := fun w a n c n' c' => Lib.run_eql_slice_nil w _ _ a n c n' c' Try.underlying27
  obtain ⟨i0, hi, hz0, hz1, hz2⟩ := info_parts info9
  cases hao : ao.isNone with
  | true =>
    have h0 : len = 0 := by
      by_cases h : 0 < len
      · obtain ⟨b, off, rfl, _⟩ := hr h
        cases hao
      · omega
    subst h0
    go_enter Try.func15, Try.ntmps15
    go_wp2
    go_ret
    exact ⟨_, rfl, World.ownsRow_nil _ _ _ _, Below.refl _ _⟩
  | false =>
    go_enter Try.func15, Try.ntmps15
    go_wp2_with (at_make; refine wpList_make_full _ rfl _ _ 27 rfl _ 9 i0 (.string ByteArray.empty) 1 Try.underlying27 hi hz0 hz1 _ _ _ _ len rfl rfl rfl rfl (by rw [hz2]; omega) (by unfold maxLen; omega) (Nat.le_refl _) ?_; intro w1 hown hgrow)
    have hown0 := partRow_zero (.string ByteArray.empty) rfl (fun i => Value.string (fe i)) len ▸ hown
    have hbel0 : Below w.heap.size w w1 := (Below.refl _ _).grown hgrow (Nat.le_refl _) (fun _ h => by cases h)
    clear hown hgrow
    go_loopw [4] (fun i wr => ∃ k : Nat, k ≤ len ∧ i = .int .i64 k ∧ wr.ownsRow w.heap.size 9 1 (.slice (some ⟨w.heap.size, 0, none⟩) len len) len (partRow (.string ByteArray.empty) (fun i => Value.string (fe i)) len k) ∧ Below w.heap.size w wr) (fun i _ => len - (intOf i).toNat)
    case atStart => exact ⟨0, Nat.zero_le _, rfl, hown0, hbel0⟩
    case round =>
      obtain ⟨k, hk, rfl, hown, hbel⟩ := hrel
      clear hown0 hbel0
      by_cases hlt : k < len
      · obtain ⟨b, off, rfl, hbw, hc⟩ := hr (by omega)
        have hcell := hown.cellAt k (by omega)
        rw [partRow_at _ _ _ _ _ (by omega)] at hcell
        have hfr := hown.frozenAt k
        have hst := (hown.stored k (Value.string (fe k))).1
        rw [partRow_succ _ (fun i => Value.string (fe i)) _ _ hlt] at hst
        have HST : Hid _ := hst
        have hb := (hbel.cell (p := ⟨b, off + k, none⟩) hbw).trans (hc k hlt)
        clear hst hc hr
        go_wp2
        go_roundw
        case rel => exact ⟨k + 1, by omega, by go_num, HST.out, hbel.setCell (Nat.le_refl _) _⟩
        case measure => simp [intOf]; omega
      · have hkl : k = len := by omega
        subst hkl
        rw [partRow_full] at hown
        have HO : Hid _ := hown
        clear hown hr
        go_wp2
        go_ret
        exact ⟨_, rfl, HO.out, hbel⟩

theorem stringsBytes_any (ao : Option Addr) (len cap : Nat) (fe : Nat → ByteArray) (B : Nat) (w : World) (hl : len ≤ 1048576) (ht : tot fe len ≤ 1048576) (hr : RowAt B w ao len fun i => Value.string (fe i)) :
    Calls Try.prog 13 #[.slice ao len cap] w fun e w' => e = .returned (.int .i64 ((16 * len + tot fe len : Nat) : Int)) ∧ w' = w := by
  go_enter Try.func13, Try.ntmps13
  go_wp2
  go_loop [3, 4] (fun t i => ∃ k : Nat, k ≤ len ∧ i = .int .i64 k ∧ t = .int .i64 ((16 * len + tot fe k : Nat) : Int)) (fun _ i => len - (intOf i).toNat)
  case atStart => exact ⟨0, Nat.zero_le _, rfl, by simp [tot]⟩
  case round =>
    obtain ⟨k, hk, rfl, rfl⟩ := hrel
    by_cases hlt : k < len
    · obtain ⟨b, off, rfl, hbw, hc⟩ := hr (by omega)
      have hb := hc k hlt
      have hs := size_le_tot fe hlt
      have HT : Hid (tot fe (k + 1) = tot fe k + (fe k).size) := rfl
      clear hc hr
      go_wp2
      go_round
      case rel => exact ⟨k + 1, by omega, by go_num, by rw [HT.out]; go_num⟩
      case measure => simp [intOf]; omega
    · have hkl : k = len := by omega
      subst hkl
      go_wp2
      go_ret
      exact ⟨rfl, rfl⟩

end Go.Proofs.Qxb6603940a
