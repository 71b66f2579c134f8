/-
  THE CONTRACTS of 'appendString', '(*listingPage).fill', 'ZZFill'.
-/
import Derived.Test.Qxb6603940aClone
namespace Go.Proofs.Qxb6603940a
open Go.RowKit

theorem one34 (u : Value) (hu : u ∈ [Value.int .u8 34]) : u.oneCell' = true := by simp at hu; subst hu; rfl

theorem quoted (bs : List UInt8) (s : ByteArray) : ((bv bs ++ [Value.int .u8 34]) ++ Lib.strCells s) ++ [Value.int .u8 34] = bv (bs ++ 34 :: (ebytes s ++ [34])) := by
  rw [bv_str, bv_append, List.append_assoc, List.append_assoc]
  congr 1
  show [Value.int .u8 34] ++ (bv (ebytes s) ++ [Value.int .u8 34]) = bcell 34 :: bv (ebytes s ++ [34])
  rw [bv_append]
  rfl

set_option maxHeartbeats 400000 in
theorem appendString_any (v : Value) (n : Nat) (bs : List UInt8) (s : ByteArray) (base : Nat) (w : World) (hown : w.ownsRow base 5 1 v n (bv bs)) (hb : base ≤ w.heap.size) (hsz : n + s.size + 2 ≤ 2097152) :
    Calls Try.prog 25 #[v, .string s] w fun e w' => ∃ v', e = .returned v' ∧ w'.ownsRow base 5 1 v' (n + 1 + s.size + 1) (bv (bs ++ 34 :: (ebytes s ++ [34]))) ∧ Below base w w' ∧ NB w w' := by
  obtain ⟨i0, hi, hz0, hz1, hz2⟩ := info_parts info5
  go_enter Try.func25, Try.ntmps25
  go_wp2_with (first | (at_builtin; refine wpList_append_own _ rfl (.tmp 5) (.tmp 6) 26 rfl base 5 i0 (.int .u8 0) 1 1 Try.underlying26 hi hz0 hz1 hz2 rfl (by decide) v n (bv bs) rfl (hown.alloc _) ⟨w.heap.size, 0, none⟩ 1 1 [.int .u8 34] rfl rfl (cell_one_new _ _ _) one34 (by unfold maxLen; omega) (by omega) (by simp; omega) ?_; intro v1 w1 hown1 hgrow1 _; have hs1 := hgrow1.size; simp at hs1) | (at_builtin; refine Lib.wpList_append_own_string _ rfl (.tmp 8) (.tmp 9) 26 9 rfl base 5 i0 Try.underlying26 Try.underlying9 hi hz0 hz1 hz2 v1 (n + 1) _ rfl hown1 s rfl (by unfold maxLen; omega) (by omega) (by omega) ?_; intro v2 w2 hown2 hgrow2 _; have hs2 := hgrow2.size) | (at_builtin; refine wpList_append_own _ rfl (.tmp 11) (.tmp 12) 26 rfl base 5 i0 (.int .u8 0) 1 1 Try.underlying26 hi hz0 hz1 hz2 rfl (by decide) v2 (n + 1 + s.size) _ rfl (hown2.alloc _) ⟨w2.heap.size, 0, none⟩ 1 1 [.int .u8 34] rfl rfl (cell_one_new _ _ _) one34 (by unfold maxLen; omega) (by omega) (by simp; omega) ?_; intro v3 w3 hown3 hgrow3 _))
  go_ret
  rw [quoted] at hown3
  have b1 : Below base w w1 := below_owned (hown.alloc _) hgrow1 ((Below.refl _ _).alloc hb _) (by simp; omega)
  have b2 : Below base w w2 := below_owned hown1 hgrow2 b1 (by omega)
  have b3 : Below base w w3 := below_owned (hown2.alloc _) hgrow3 (b2.alloc (by omega) _) (by simp; omega)
  exact ⟨v3, rfl, hown3, b3, (((NB.alloc _ _).trans (NB.grown (hown.alloc _) hgrow1)).trans (NB.grown hown1 hgrow2)).trans ((NB.alloc _ _).trans (NB.grown (hown2.alloc _) hgrow3))⟩

theorem one44 (u : Value) (hu : u ∈ [Value.int .u8 44]) : u.oneCell' = true := by simp at hu; subst hu; rfl

theorem comma_after (bs : List UInt8) : bv bs ++ [Value.int .u8 44] = bv (bs ++ [44]) := by
  rw [bv_append]; rfl

theorem owns_shape {w : World} {base : Nat} {e : TypeId} {v : Value} {n : Nat} {xs : List Value} (h : w.ownsRow base e 1 v n xs) : ∃ ao cap, v = .slice ao n cap := by
  rcases h.2 with ⟨rfl, rfl⟩ | ⟨g, cap, cur, rfl, _⟩
  · exact ⟨none, 0, rfl⟩
  · exact ⟨_, _, rfl⟩

theorem owns_as {w : World} {base : Nat} {v : Value} {n : Nat} {L L' : List UInt8} (h : w.ownsRow base 5 1 v n (bv L)) (e : L = L') : w.ownsRow base 5 1 v L'.length (bv L') := by
  subst e
  have h1 : n = L.length := by have := h.1; rw [bv_length] at this; omega
  rw [← h1]; exact h

theorem lay_first (bs : List UInt8) (fe : Nat → ByteArray) (k : Nat) (h : ¬ 0 < k) : layK bs fe k ++ 34 :: (ebytes (fe k) ++ [34]) = layK bs fe (k + 1) := by
  have e : k = 0 := by omega
  subst e; rfl

theorem lay_next (bs : List UInt8) (fe : Nat → ByteArray) (k : Nat) (h : 0 < k) : layK bs fe k ++ [44] ++ 34 :: (ebytes (fe k) ++ [34]) = layK bs fe (k + 1) := by
  rw [layK, piece, if_neg (by omega), List.append_assoc]

/-- The page in memory. -/
def Page (w : World) (p : Nat) (b0 v : Value) (last : ByteArray) : Prop := w.heap[p]? = some (.cells #[b0, v, .string last] 39 (0, 0))

theorem owns_setPage {w : World} {base p j : Nat} {cs : Array Value} {v u : Value} {n : Nat} {xs : List Value} (h : w.ownsRow base 5 1 v n xs) (hp : w.heap[p]? = some (.cells cs 39 (0, 0))) : (w.setCell ⟨p, j, none⟩ u).ownsRow base 5 1 v n xs := by
  refine ⟨h.1, ?_⟩
  rcases h.2 with h0 | ⟨g, cap, cur, rfl, hbg, hg, r⟩
  · exact .inl h0
  · refine .inr ⟨g, cap, cur, rfl, hbg, ?_, r⟩
    rw [Below.heap_setCell _ _ _ _ ?_]
    · exact hg
    · intro e
      simp only at e
      subst e
      rw [hg] at hp
      simp at hp

theorem Page.body {w : World} {p : Nat} {b0 v : Value} {last : ByteArray} (h : Page w p b0 v last) (u : Value) : Page (w.setCell ⟨p, 1, none⟩ u) p b0 u last :=
  heap_setCell_same w p 1 _ 39 u h

theorem Page.last {w : World} {p : Nat} {b0 v : Value} {last : ByteArray} (h : Page w p b0 v last) (s : ByteArray) : Page (w.setCell ⟨p, 2, none⟩ (.string s)) p b0 v s :=
  heap_setCell_same w p 2 _ 39 (.string s) h

/-- What 'last' becomes. -/
def lastOf (last : ByteArray) (fe : Nat → ByteArray) (n : Nat) : ByteArray := if n = 0 then last else fe (n - 1)

set_option maxHeartbeats 800000 in
theorem fill_any (p : Nat) (b0 v : Value) (last : ByteArray) (bs : List UInt8) (ae : Option Addr) (ne ce : Nat) (fe : Nat → ByteArray) (base : Nat) (w : World)
    (hp : base ≤ p) (hpage : Page w p b0 v last) (hown : w.ownsRow base 5 1 v bs.length (bv bs)) (hb : base ≤ w.heap.size) (hr : RowAt base w ae ne fun i => Value.string (fe i))
    (hsz : bs.length + 16 * ne + tot fe ne ≤ 1048576) :
    Calls Try.prog 21 #[.pointer (some ⟨p, 0, none⟩), .slice ae ne ce] w fun e w' => e = .returned (.tuple #[]) ∧ ∃ v', w'.ownsRow base 5 1 v' (layK bs fe ne).length (bv (layK bs fe ne)) ∧
      Page w' p b0 v' (lastOf last fe ne) ∧ Below base w w' := by
  obtain ⟨i0, hi, hz0, hz1, hz2⟩ := info_parts info5
  have hc1 : w.cell? ⟨p, 1, none⟩ = some v := by rw [cell_of_row w p 1 _ 39 (0, 0) hpage]; rfl
  have HP : Hid (Page w p b0 v last) := hpage
  clear hpage
  go_enter Try.func21, Try.ntmps21
  go_wp2
  go_loopw [4, 13] (fun u i wr => ∃ k : Nat, k ≤ ne ∧ i = .int .i64 k ∧ wr.ownsRow base 5 1 u (layK bs fe k).length (bv (layK bs fe k)) ∧ Hid (Page wr p b0 v last) ∧ Below base w wr) (fun _ i _ => ne - (intOf i).toNat)
  case atStart => exact ⟨0, Nat.zero_le _, rfl, hown, HP, Below.refl _ _⟩
  case round =>
    obtain ⟨k, hk, rfl, hown, HP, hbel⟩ := hrel
    have hbnd := layK_bound bs fe ne k hk (by omega)
    have hbs := hbel.size
    by_cases hlt : k < ne
    · obtain ⟨b, off, rfl, hbw, hc⟩ := (hr.below hbel) (by omega)
      have hce := hc k hlt
      have hs := size_le_tot fe hlt
      clear hc hr
      by_cases h0 : 0 < k
      · go_wp2_with (first | (at_builtin; refine wpList_append_own _ rfl (.tmp 20) (.tmp 21) 26 rfl base 5 i0 (.int .u8 0) 1 1 Try.underlying26 hi hz0 hz1 hz2 rfl (by decide) u4 _ _ rfl (hown.alloc _) ⟨wr.heap.size, 0, none⟩ 1 1 [.int .u8 44] rfl rfl (cell_one_new _ _ _) one44 (by unfold maxLen; omega) (by omega) (by simp; omega) ?_; intro v1 w1 hown1 hgrow1 _; have hs1 := hgrow1.size; simp at hs1; rw [comma_after] at hown1) | (go_at_call 25; refine (appendString_any _ _ _ (fe k) base _ hown1 (by omega) (by omega)).mono ?_; rintro e w' ⟨v', rfl, hown', hbel', hnb'⟩))
        have R1 := owns_as hown' (lay_next bs fe k h0)
        have R2 : Page w' p b0 v last := (((NB.alloc _ _).trans (NB.grown (hown.alloc _) hgrow1)).trans hnb') p _ 39 _ (by decide) HP.out
        have R3 : Below base w w' := (below_owned (hown.alloc _) hgrow1 (hbel.alloc (by omega) _) (by simp; omega)).trans hbel'
        clear hown' hgrow1 hown1 hown
        go_roundw
        case rel => exact ⟨k + 1, by omega, by go_num, R1, R2, R3⟩
        case measure => simp [intOf]; omega
      · go_wp2_with (first | (go_at_call 25; refine (appendString_any _ _ _ (fe k) base _ hown (by omega) (by omega)).mono ?_; rintro e w' ⟨v', rfl, hown', hbel', hnb'⟩))
        have R1 := owns_as hown' (lay_first bs fe k h0)
        have R2 : Page w' p b0 v last := hnb' p _ 39 _ (by decide) HP.out
        have R3 : Below base w w' := hbel.trans hbel'
        clear hown' hown
        go_roundw
        case rel => exact ⟨k + 1, by omega, by go_num, R1, R2, R3⟩
        case measure => simp [intOf]; omega
    · have hkn : k = ne := by omega
      subst hkn
      obtain ⟨ao4, cap4, rfl⟩ := owns_shape hown
      have HO : Hid _ := hown
      clear hown
      have c1 : wr.cell? ⟨p, 1, none⟩ = some v := by rw [cell_of_row wr p 1 _ 39 (0, 0) HP.out]; rfl
      have c2 : wr.cell? ⟨p, 2, none⟩ = some (.string last) := by rw [cell_of_row wr p 2 _ 39 (0, 0) HP.out]; rfl
      have f1 : wr.frozen? ⟨p, 1, none⟩ = false := frozen_of_row wr p 1 _ 39 HP.out
      have f2 : wr.frozen? ⟨p, 2, none⟩ = false := frozen_of_row wr p 2 _ 39 HP.out
      by_cases h0 : 0 < k
      · obtain ⟨b, off, rfl, hbw, hc⟩ := (hr.below hbel) h0
        have hce := hc (k - 1) (by omega)
        have hbp : b ≠ p := by omega
        have HL : Hid (lastOf last fe k = fe (k - 1)) := if_neg (by omega)
        clear hc hr
        go_wp2
        go_end0
        refine ⟨rfl, _, owns_setPage (owns_setPage HO.out HP.out) (HP.out.body _), ?_, (hbel.setCell hp _).setCell hp _⟩
        rw [HL.out]
        exact (HP.out.body _).last _
      · have HL : Hid (lastOf last fe k = last) := if_pos (by omega)
        go_wp2
        go_end0
        refine ⟨rfl, _, owns_setPage HO.out HP.out, ?_, hbel.setCell hp _⟩
        rw [HL.out]
        exact HP.out.body _
end Go.Proofs.Qxb6603940a
