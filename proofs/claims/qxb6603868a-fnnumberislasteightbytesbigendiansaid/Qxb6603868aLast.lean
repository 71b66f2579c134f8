import Derived.Test.Qxb6603868aNumber
import Derived.Below
import Derived.OpenShut
namespace Go.Proofs.Qxb6603868a.fnNumberIsLastEightBytesBigEndian
open Go.RowKit

theorem info5 : (Try.prog.info? 5).map (fun i => (i.zero, i.size, i.bytes)) = some (some (.int .u8 0), 1, 1) := by kernel_rfl

/-- The copy behind k rounds: its first k bytes are written. -/
def cellsAt (f : Nat → Nat) (n k : Nat) : List Value := (List.range n).map fun p => Value.int .u8 (if p < k then (f p : Int) else 0)

theorem cellsAt_zero (f : Nat → Nat) (n : Nat) : (madeCells (Value.int .u8 0).cells (n * 1)).toList = cellsAt f n 0 := by
  show (madeCells #[Value.int .u8 0] (n * 1)).toList = _
  rw [toList_madeCells_one, Nat.mul_one]
  unfold cellsAt
  apply List.ext_getElem?
  intro i
  by_cases h : i < n
  · simp [h]
  · simp [h]

theorem cellsAt_at (f : Nat → Nat) (n k p : Nat) (hp : p < n) : (cellsAt f n k)[p]? = some (Value.int .u8 (if p < k then (f p : Int) else 0)) := by
  simp [cellsAt, hp]

theorem cellsAt_succ (f : Nat → Nat) (n k : Nat) (hk : k < n) : (cellsAt f n k).set k (Value.int .u8 (f k : Int)) = cellsAt f n (k + 1) := by
  apply List.ext_getElem?
  intro p
  rw [List.getElem?_set]
  by_cases hp : p < n
  · rw [cellsAt_at _ _ _ _ hp, cellsAt_at _ _ _ _ hp]
    by_cases e : k = p
    · subst e
      rw [if_pos rfl, if_pos (by simp [cellsAt]; omega), if_pos (by omega)]
    · rw [if_neg e]
      by_cases h : p < k
      · rw [if_pos h, if_pos (by omega)]
      · rw [if_neg h, if_neg (by omega)]
  · simp [cellsAt, hp]
    omega

theorem bytes_ok (a : Option Addr) (len cap : Nat) (w : World) (hl : len ≤ 1048576) :
    Calls Try.prog 5 #[.slice a len cap] w fun e w' => e = .returned (.bool true) ∧ w' = w := by
  go_enter Try.func5, Try.ntmps5
  go_wp2
  go_ret
  exact ⟨rfl, rfl⟩

theorem bytes_no (a : Option Addr) (len cap : Nat) (w : World) (hl : 1048576 < len) :
    Calls Try.prog 5 #[.slice a len cap] w fun e w' => e = .returned (.bool false) ∧ w' = w := by
  go_enter Try.func5, Try.ntmps5
  go_wp2
  go_ret
  exact ⟨rfl, rfl⟩

theorem walk_big (a : Option Addr) (len cap : Nat) (w : World) (hl : 1048576 < len) :
    Calls Try.prog 3 #[.slice a len cap] w fun e w' => e = .returned (.bool true) ∧ Below w.heap.size w w' := by
  go_enter Try.func3, Try.ntmps3
  go_wp2_with (go_at_call 5; refine (bytes_no a len cap _ hl).mono ?_; rintro e w' ⟨rfl, rfl⟩)
  go_ret
  exact ⟨rfl, Below.refl _ _⟩

theorem walk_nil (w : World) :
    Calls Try.prog 3 #[.slice none 0 0] w fun e w' => e = .returned (.bool true) ∧ Below w.heap.size w w' := by
  have q22 : ∀ (w : World) (a : Option Addr) (n c n' c' : Nat), (binOp .neq 22 (.slice a n c) (.slice none n' c')).run Try.prog w = .ok (.bool (!a.isNone)) w := fun w a n c n' c' => run_neq_slice_nil_any w _ _ a n c n' c' Try.underlying22
  go_enter Try.func3, Try.ntmps3
  go_wp2_with (first | (go_at_call 5; refine (bytes_ok none 0 0 _ (by omega)).mono ?_; rintro e w' ⟨rfl, rfl⟩) | (go_at_call 6; refine (zznumber_none none 0 _).mono ?_; rintro e w' ⟨rfl, rfl⟩))
  refine wp_loop_rounds 1 ?_
  rw [rounds_succ]
  go_wp2
  go_ret
  exact ⟨rfl, Below.refl _ _⟩

theorem walk_empty (a : Option Addr) (cap : Nat) (w : World) (ha : a.isNone = false) :
    Calls Try.prog 3 #[.slice a 0 cap] w fun e w' => e = .returned (.bool true) ∧ Below w.heap.size w w' := by
  have q22 : ∀ (w : World) (a : Option Addr) (n c n' c' : Nat), (binOp .neq 22 (.slice a n c) (.slice none n' c')).run Try.prog w = .ok (.bool (!a.isNone)) w := fun w a n c n' c' => run_neq_slice_nil_any w _ _ a n c n' c' Try.underlying22
  obtain ⟨i0, hi, hz0, hz1, hz2⟩ := info_parts info5
  go_enter Try.func3, Try.ntmps3
  go_wp2_with (first | (go_at_call 5; refine (bytes_ok _ 0 cap _ (by omega)).mono ?_; rintro e w' ⟨rfl, hw⟩; subst w') | (at_make; refine wpList_make_full _ rfl _ _ 22 rfl _ 5 i0 (.int .u8 0) 1 Try.underlying22 hi hz0 hz1 _ _ _ _ 0 rfl rfl rfl rfl (by rw [hz2]; omega) (by unfold maxLen; omega) (Nat.le_refl _) ?_; intro w1 hown hgrow))
  have hbel0 : Below w.heap.size w w1 := (Below.refl _ _).grown hgrow (Nat.le_refl _) (fun _ h => by cases h)
  clear hown hgrow
  refine wp_loop_rounds 1 ?_
  rw [rounds_succ]
  go_wp2_with (go_at_call 6; refine (zznumber_none _ 0 _).mono ?_; rintro e w' ⟨rfl, hw⟩; subst w')
  refine wp_loop_rounds 1 ?_
  rw [rounds_succ]
  go_wp2
  go_ret
  exact ⟨rfl, hbel0⟩

/-- One round of 'want |= uint64(b[i]) << shift'. -/
theorem or_low (f : Nat → Nat) (hf : ∀ i, f i < 256) (n t : Nat) (ht : t < 8) :
    bits .or .u64 (low f n t : Int) (IntKind.u64.wrap ((f (n - 1 - t) : Int) * 2 ^ (8 * t))) = (low f n (t + 1) : Int) := by
  have h1 := low_lt f hf n t
  have h2 := low_lt f hf n (t + 1)
  have hp : (256 : Nat) ^ (t + 1) ≤ 256 ^ 8 := Nat.pow_le_pow_right (by decide) (by omega)
  have hq : (256 : Nat) ^ t ≤ 256 ^ 8 := Nat.pow_le_pow_right (by decide) (by omega)
  have e8 : (256 : Nat) ^ 8 = 18446744073709551616 := by decide
  have e0 : (f (n - 1 - t) : Int) * 2 ^ (8 * t) = ((f (n - 1 - t) * 256 ^ t : Nat) : Int) := by rw [Int.pow_mul, Int.natCast_mul, Int.natCast_pow]; rfl
  have e2 : (256 : Nat) ^ t = 2 ^ (8 * t) := by rw [Nat.pow_mul]
  rw [low] at h2 ⊢
  have ew : IntKind.u64.wrap ((f (n - 1 - t) : Int) * 2 ^ (8 * t)) = ((f (n - 1 - t) * 256 ^ t : Nat) : Int) := by
    rw [e0, IntKind.wrap_u64]; omega
  rw [ew, u64_or_nat _ _ (by omega) (by omega), Nat.or_comm, nat_join (8 * t) _ _ (by rw [e2]; exact Nat.mul_mod_left _ _) (by rw [← e2]; exact h1), Nat.add_comm]

theorem ret_true {a b : Int} (h : a = b) : Ending.returned (.bool (a == b)) = .returned (.bool true) := by rw [h]; simp

set_option maxHeartbeats 800000 in
theorem walk_row (b off len cap : Nat) (f : Nat → Nat) (w : World) (hl : len ≤ 1048576) (hf : ∀ i, f i < 256)
    (hc : ∀ i, i < len → w.cell? ⟨b, off + i, none⟩ = some (.int .u8 (f i : Int))) (hbw : b < w.heap.size) :
    Calls Try.prog 3 #[.slice (some ⟨b, off, none⟩) len cap] w fun e w' => e = .returned (.bool true) ∧ Below w.heap.size w w' := by
  have q22 : ∀ (w : World) (a : Option Addr) (n c n' c' : Nat), (binOp .neq 22 (.slice a n c) (.slice none n' c')).run Try.prog w = .ok (.bool (!a.isNone)) w := fun w a n c n' c' => run_neq_slice_nil_any w _ _ a n c n' c' Try.underlying22
  obtain ⟨i0, hi, hz0, hz1, hz2⟩ := info_parts info5
  go_enter Try.func3, Try.ntmps3
  go_wp2_with (first | (go_at_call 5; refine (bytes_ok _ len cap _ hl).mono ?_; rintro e w' ⟨rfl, hw⟩; subst w') | (at_make; refine wpList_make_full _ rfl _ _ 22 rfl _ 5 i0 (.int .u8 0) 1 Try.underlying22 hi hz0 hz1 _ _ _ _ len rfl rfl rfl rfl (by rw [hz2]; omega) (by unfold maxLen; omega) (Nat.le_refl _) ?_; intro w1 hown hgrow))
  have hown0 := cellsAt_zero f len ▸ hown
  have hbel0 : Below w.heap.size w w1 := (Below.refl _ _).grown hgrow (Nat.le_refl _) (fun _ h => by cases h)
  clear hown hgrow
  go_loopw [4] (fun i wr => ∃ k : Nat, k ≤ len ∧ i = .int .i64 k ∧ wr.ownsRow w.heap.size 5 1 (.slice (some ⟨w.heap.size, 0, none⟩) len len) len (cellsAt f len k) ∧ Below w.heap.size w wr) (fun i _ => len - (intOf i).toNat)
  case atStart => exact ⟨0, Nat.zero_le _, rfl, hown0, hbel0⟩
  case round =>
    obtain ⟨k, hk, rfl, hown, hbel⟩ := hrel
    clear hown0 hbel0
    by_cases hlt : k < len
    · have hcell := hown.cellAt k (by omega)
      rw [cellsAt_at _ _ _ _ (by omega)] at hcell
      have hfr := hown.frozenAt k
      have hst := (hown.stored k (Value.int .u8 (f k : Int))).1
      rw [cellsAt_succ _ _ _ hlt] at hst
      have HST : Hid _ := hst
      have hb := (hbel.cell (p := ⟨b, off + k, none⟩) hbw).trans (hc k hlt)
      clear hst
      go_wp2
      go_roundw
      case rel => exact ⟨k + 1, by omega, by go_num, HST.out, hbel.setCell (Nat.le_refl _) _⟩
      case measure => simp [intOf]; omega
    · have HC : ∀ i, i < len → wr.cell? ⟨w.heap.size, i, none⟩ = some (.int .u8 (f i : Int)) := by
        intro i hi
        have hc := hown.cellAt i (by omega)
        rw [cellsAt_at _ _ _ _ hi, if_pos (by omega)] at hc
        exact hc
      have HC0 : Hid (∀ i, i < len → wr.cell? ⟨w.heap.size, 0 + i, none⟩ = some (.int .u8 (f i : Int))) := by
        intro i hi
        rw [Nat.zero_add]
        exact HC i hi
      clear hown
      by_cases h8 : 8 < len
      · go_wp2_with (go_at_call 6; refine (zznumber_row w.heap.size 0 len len f _ hl hf HC0.out).mono ?_; rintro e w' ⟨rfl, hw⟩; subst w')
        go_loop [7, 8, 9] (fun n s i => ∃ t : Nat, t ≤ 8 ∧ n = .int .u64 (low f len t : Int) ∧ s = .int .u64 ((8 * t : Nat) : Int) ∧ i = .int .i64 ((len : Int) - 1 - (t : Int))) (fun _ s _ => 64 - (intOf s).toNat)
        case atStart => exact ⟨0, Nat.zero_le _, rfl, rfl, by go_num⟩
        case round =>
          obtain ⟨t, ht, rfl, rfl, rfl⟩ := hrel
          by_cases ht8 : t < 8
          · have hct := HC (len - 1 - t) (by omega)
            have hft := hf (len - 1 - t)
            have HS : Hid _ := or_low f hf len t (by omega)
            clear HC
            go_wp2
            go_round
            case rel => exact ⟨t + 1, by omega, by rw [HS.out], by go_num, by go_num⟩
            case measure => simp [intOf]; omega
          · have HE : Hid (min len 8 = t) := by show min len 8 = t; omega
            have HL : Hid _ := numf_last f hf len
            clear HC
            go_wp2
            go_ret
            exact ⟨ret_true (by rw [HL.out, HE.out]), hbel⟩
      · go_wp2_with (go_at_call 6; refine (zznumber_row w.heap.size 0 len len f _ hl hf HC0.out).mono ?_; rintro e w' ⟨rfl, hw⟩; subst w')
        go_loop [7, 8, 9] (fun n s i => ∃ t : Nat, t ≤ len ∧ n = .int .u64 (low f len t : Int) ∧ s = .int .u64 ((8 * t : Nat) : Int) ∧ i = .int .i64 ((len : Int) - 1 - (t : Int))) (fun _ s _ => 64 - (intOf s).toNat)
        case atStart => exact ⟨0, Nat.zero_le _, rfl, rfl, by go_num⟩
        case round =>
          obtain ⟨t, ht, rfl, rfl, rfl⟩ := hrel
          by_cases ht8 : t < len
          · have hct := HC (len - 1 - t) (by omega)
            have hft := hf (len - 1 - t)
            have HS : Hid _ := or_low f hf len t (by omega)
            clear HC
            go_wp2
            go_round
            case rel => exact ⟨t + 1, by omega, by rw [HS.out], by go_num, by go_num⟩
            case measure => simp [intOf]; omega
          · have HE : Hid (min len 8 = t) := by show min len 8 = t; omega
            have HL : Hid _ := numf_last f hf len
            clear HC
            go_wp2
            go_ret
            exact ⟨ret_true (by rw [HL.out, HE.out]), hbel⟩

/-- WHAT THE WALK IS TOLD OF A SLICE OF INTEGERS THAT CAME IN: it is nil; or it leads to a row of 'cap' cells, the numbers 'zs' (the first 'len' are its elements, the rest its spare room), each fitting its kind. -/
def IsRow (k : IntKind) (w : World) (a : Option Addr) (len cap : Nat) (zs : List Int) : Prop :=
  (a = none ∧ len = 0 ∧ cap = 0 ∧ zs = []) ∨
  ∃ x, a = some x ∧ len ≤ cap ∧ cap ≤ maxLen ∧ zs.length = cap ∧ (∀ i, i < zs.length → w.cell? (x.add i) = some (.int k (zs.getD i 0))) ∧ ∀ n ∈ zs, (Lit.int k n).wf = true

theorem walk (a0 : Option Addr) (len0 cap0 : Nat) (z0 : List Int) (w : World) (w0 : IsRow .u8 w a0 len0 cap0 z0) :
    Calls Try.prog 3 #[.slice a0 len0 cap0] w fun e w' => e = .returned (.bool true) ∧ Below w.heap.size w w' := by
  by_cases hbig : 1048576 < len0
  · exact walk_big a0 len0 cap0 w hbig
  · rcases w0 with ⟨rfl, rfl, rfl, rfl⟩ | ⟨x, rfl, hl, hm, hz, hcell, hwz⟩
    · exact walk_nil w
    · by_cases h0 : len0 = 0
      · subst h0
        exact walk_empty (some x) cap0 w (by simp)
      · obtain ⟨b, off, spot⟩ := x
        have hc := hcell 0 (by omega)
        have hspot : spot = none := by simpa [Addr.add] using World.cell?_spot hc
        subst hspot
        have hr := range_u8 hwz
        refine walk_row b off len0 cap0 (fun i => (z0.getD i 0).toNat) w (by omega) (fun i => ?_) (fun i hi => ?_) (World.block_lt_of_cell? w _ hc)
        · have := hr i
          simp
          omega
        · have h1 := hcell i (by omega)
          have := hr i
          rw [Addr.add_lit] at h1
          rw [h1]
          congr 2
          simp at this ⊢
          omega

end Go.Proofs.Qxb6603868a.fnNumberIsLastEightBytesBigEndian
