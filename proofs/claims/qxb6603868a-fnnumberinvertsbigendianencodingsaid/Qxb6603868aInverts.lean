import Derived.Test.Qxb6603868aNumber
import Derived.Below
import Derived.OpenShut
namespace Go.Proofs.Qxb6603868a.fnNumberInvertsBigEndianEncoding
open Go.RowKit

theorem info5 : (Try.prog.info? 5).map (fun i => (i.zero, i.size, i.bytes)) = some (some (.int .u8 0), 1, 1) := by kernel_rfl

/-- The row behind j rounds: its last j bytes are written. -/
def cellsAt (x K j : Nat) : List Value := (List.range K).map fun p => Value.int .u8 (if K ≤ p + j then (enc x K p : Int) else 0)

theorem cellsAt_zero (x K : Nat) : (madeCells (Value.int .u8 0).cells (K * 1)).toList = cellsAt x K 0 := by
  show (madeCells #[Value.int .u8 0] (K * 1)).toList = _
  rw [toList_madeCells_one, Nat.mul_one]
  unfold cellsAt
  apply List.ext_getElem?
  intro i
  by_cases h : i < K
  · simp [h, if_neg (show ¬ K ≤ i by omega)]
  · simp [h]

theorem cellsAt_at (x K j p : Nat) (hp : p < K) : (cellsAt x K j)[p]? = some (Value.int .u8 (if K ≤ p + j then (enc x K p : Int) else 0)) := by
  simp [cellsAt, hp]

theorem cellsAt_succ (x K j : Nat) (hj : j < K) : (cellsAt x K j).set (K - 1 - j) (Value.int .u8 (enc x K (K - 1 - j) : Int)) = cellsAt x K (j + 1) := by
  apply List.ext_getElem?
  intro p
  rw [List.getElem?_set]
  by_cases hp : p < K
  · rw [cellsAt_at _ _ _ _ hp, cellsAt_at _ _ _ _ hp]
    by_cases e : K - 1 - j = p
    · subst e
      rw [if_pos rfl, if_pos (by simp [cellsAt]; omega), if_pos (by omega)]
    · rw [if_neg e]
      by_cases h : K ≤ p + j
      · rw [if_pos h, if_pos (by omega)]
      · rw [if_neg h, if_neg (by omega)]
  · simp [cellsAt, hp]
    omega

theorem shr_enc (x K j : Nat) (hj : j < K) : (x : Int) / 2 ^ (8 * j) % 256 = (enc x K (K - 1 - j) : Int) := by
  have e : K - 1 - (K - 1 - j) = j := by omega
  rw [enc, e, Int.natCast_emod, Int.natCast_ediv, Int.natCast_pow, Int.pow_mul]
  rfl

theorem end8 (x K : Nat) (hx : x < 18446744073709551616) (h : ((K : Int) == 8) = true) :
    ((numf (enc x K) K : Nat) : Int) = bits .and .u64 (x : Int) 18446744073709551615 := by
  have hK : K = 8 := by have := eq_of_beq h; omega
  subst hK
  have e := u64_and_nat x (256 ^ 8 - 1) hx (by decide)
  rw [and_mask x 8] at e
  rw [numf_enc x 8 (by omega), ← e]
  rfl

theorem end7 (x K : Nat) (hx : x < 18446744073709551616) (hK : K ≤ 8) (h : ((K : Int) == 8) = false) :
    ((numf (enc x K) K : Nat) : Int) = bits .and .u64 (x : Int) (IntKind.u64.wrap (IntKind.u64.wrap (2 ^ (8 * K)) - 1)) := by
  have hK7 : K ≤ 7 := by have := ne_of_beq_false h; omega
  have hp : (256 : Nat) ^ K ≤ 256 ^ 7 := Nat.pow_le_pow_right (by decide) hK7
  have hp0 : 0 < (256 : Nat) ^ K := Nat.pow_pos (by decide)
  have e7 : (256 : Nat) ^ 7 = 72057594037927936 := by decide
  have e0 : (2 : Int) ^ (8 * K) = ((256 ^ K : Nat) : Int) := by rw [Int.pow_mul, Int.natCast_pow]; rfl
  have ew : IntKind.u64.wrap (IntKind.u64.wrap (2 ^ (8 * K)) - 1) = ((256 ^ K - 1 : Nat) : Int) := by
    rw [e0, IntKind.wrap_u64, IntKind.wrap_u64]; omega
  rw [ew, u64_and_nat x (256 ^ K - 1) hx (by omega), and_mask x K, numf_enc x K hK]

theorem ret_true {a b : Int} (h : a = b) : Ending.returned (.bool (a == b)) = .returned (.bool true) := by rw [h]; simp

set_option maxHeartbeats 400000 in
theorem walk_in (x K : Nat) (hx : x < 18446744073709551616) (hK : K ≤ 8) (w : World) :
    Calls Try.prog 4 #[.int .u64 (x : Int), .int .i64 (K : Int)] w fun e w' => e = .returned (.bool true) ∧ Below w.heap.size w w' := by
  obtain ⟨i0, hi, hz0, hz1, hz2⟩ := info_parts info5
  go_enter Try.func4, Try.ntmps4
  go_wp2_with (at_make; refine wpList_make_full _ rfl _ _ 22 rfl w.heap.size 5 i0 (.int .u8 0) 1 Try.underlying22 hi hz0 hz1 _ _ _ _ K rfl rfl rfl rfl (by rw [hz2]; omega) (by unfold maxLen; omega) (Nat.le_refl _) ?_; intro w1 hown hgrow)
  have hown0 := cellsAt_zero x K ▸ hown
  have hbel0 : Below w.heap.size w w1 := (Below.refl _ _).grown hgrow (Nat.le_refl _) (fun _ h => by cases h)
  clear hown hgrow
  go_loopw [6] (fun i wr => ∃ j : Nat, j ≤ K ∧ i = .int .i64 j ∧ wr.ownsRow w.heap.size 5 1 (.slice (some ⟨w.heap.size, 0, none⟩) K K) K (cellsAt x K j) ∧ Below w.heap.size w wr) (fun i _ => K - (intOf i).toNat)
  case atStart => exact ⟨0, Nat.zero_le _, rfl, hown0, hbel0⟩
  case round =>
    obtain ⟨j, hj, rfl, hown, hbel⟩ := hrel
    clear hown0 hbel0
    by_cases hlt : j < K
    · have hcell := hown.cellAt (K - 1 - j) (by omega)
      rw [cellsAt_at _ _ _ _ (by omega)] at hcell
      have hfr := hown.frozenAt (K - 1 - j)
      have hst := (hown.stored (K - 1 - j) (Value.int .u8 (enc x K (K - 1 - j) : Int))).1
      rw [cellsAt_succ _ _ _ hlt] at hst
      have HST : Hid _ := hst
      clear hst
      go_wp2
      go_roundw
      case rel => rw [shr_enc x K j hlt]; exact ⟨j + 1, by omega, by go_num, HST.out, hbel.setCell (Nat.le_refl _) _⟩
      case measure => simp [intOf]; omega
    · have HC : Hid (∀ i, i < K → wr.cell? ⟨w.heap.size, 0 + i, none⟩ = some (.int .u8 (enc x K i : Int))) := by
        intro i hi
        have hc := hown.cellAt i (by omega)
        rw [cellsAt_at _ _ _ _ hi, if_pos (by omega)] at hc
        rw [Nat.zero_add]
        exact hc
      clear hown
      go_wp2_with (go_at_call 6; refine (zznumber_row w.heap.size 0 K K (enc x K) _ (by omega) (enc_lt x K) HC.out).mono ?_; rintro e w' ⟨rfl, rfl⟩)
      · go_ret
        exact ⟨ret_true (end8 x K hx (by assumption)), hbel⟩
      · go_ret
        exact ⟨ret_true (end7 x K hx hK (by assumption)), hbel⟩

theorem walk (a0 : Int) (a1 : Int) (w0 : (Lit.int .u64 a0).wf = true) (w : World) :
    Calls Try.prog 4 #[.int .u64 a0, .int .i64 a1] w fun e w' => e = .returned (.bool true) ∧ Below w.heap.size w w' := by
  by_cases h1 : a1 < 0
  · go_enter Try.func4, Try.ntmps4
    go_wp2
    go_ret
    exact ⟨rfl, Below.refl _ _⟩
  · by_cases h2 : 8 < a1
    · have h3 : 0 ≤ a1 := by omega
      go_enter Try.func4, Try.ntmps4
      go_wp2
      go_ret
      exact ⟨rfl, Below.refl _ _⟩
    · have hb := bounds_u64 w0
      obtain ⟨x, rfl⟩ := Int.eq_ofNat_of_zero_le hb.1
      obtain ⟨K, rfl⟩ := Int.eq_ofNat_of_zero_le (Int.not_lt.1 h1)
      exact walk_in x K (by omega) (by omega) w

end Go.Proofs.Qxb6603868a.fnNumberInvertsBigEndianEncoding
