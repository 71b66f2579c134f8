/-
  THE WALK of 'FnFillSplitsAtAnyPoint'.
-/
import Derived.Test.Qxb6603940aEq
import Derived.Deep.RegionWith
import Derived.Deep.RegionHeld3
namespace Go.Proofs.Qxb6603940a
open Go.RowKit

theorem tot_split (fe : Nat → ByteArray) (k m : Nat) : tot fe (k + m) = tot fe k + tot (fun i => fe (k + i)) m := by
  induction m with
  | zero => simp [tot]
  | succ m ih => rw [← Nat.add_assoc, tot, ih, tot, Nat.add_assoc]

theorem tot_rest (fe : Nat → ByteArray) {k n : Nat} (h : k ≤ n) : tot fe k + tot (fun i => fe (k + i)) (n - k) = tot fe n := by
  have := tot_split fe k (n - k)
  rw [Nat.add_sub_cancel' h] at this
  exact this.symm

theorem last_rest (last : ByteArray) (fe : Nat → ByteArray) {k n : Nat} (h : k ≤ n) : lastOf (lastOf last fe k) (fun i => fe (k + i)) (n - k) = lastOf last fe n := by
  unfold lastOf
  by_cases e : n - k = 0
  · have : n = k := by omega
    subst this
    rw [if_pos e]
  · rw [if_neg e, if_neg (show n ≠ 0 by omega)]
    show fe (k + (n - k - 1)) = fe (n - 1)
    rw [show k + (n - k - 1) = n - 1 by omega]

theorem lay_rest (bs : List UInt8) (fe : Nat → ByteArray) {k n : Nat} (hk : 0 < k) (h : k < n) : layK (layK bs fe k ++ [44]) (fun i => fe (k + i)) (n - k) = layK bs fe n := by
  obtain ⟨m, hm⟩ : ∃ m, n - k = m + 1 := ⟨n - k - 1, by omega⟩
  rw [hm, layK_split bs fe k m hk]
  congr 1
  omega

theorem lay_whole (bs : List UInt8) (fe : Nat → ByteArray) (n : Nat) : layK bs (fun i => fe (0 + i)) n = layK bs fe n :=
  layK_congr _ _ _ _ fun i _ => by rw [Nat.zero_add]

theorem last_zero (last : ByteArray) (fe : Nat → ByteArray) (n : Nat) : lastOf (lastOf last fe 0) fe n = lastOf last fe n := rfl

set_option maxRecDepth 100000 in
set_option maxHeartbeats 1600000 in
theorem splits_mid (a0 : Option Addr) (len0 cap0 : Nat) (fb : Nat → UInt8) (last : ByteArray) (ae : Option Addr) (ne ce : Nat) (fe : Nat → ByteArray) (k : Nat) (w : World)
    (h0 : len0 ≤ maxLen) (h1 : last.size ≤ maxLen) (h2 : ne ≤ maxLen) (h3 : ∀ i, (fe i).size ≤ maxLen) (hrb : RowAt w.heap.size w a0 len0 fun i => bcell (fb i)) (hre : RowAt w.heap.size w ae ne fun i => Value.string (fe i))
    (hg : len0 + last.size + ne + tot fe ne ≤ 1048576) (hne : ne ≤ 65536) (hsum : len0 + last.size + (16 * ne + tot fe ne) ≤ 1048576) (hae : ae.isNone = false) (hk0 : 0 < k) (hkn : k < ne) :
    Calls Try.prog 6 #[.slice a0 len0 cap0, .string last, .slice ae ne ce, .int .i64 (k : Int)] w fun e w' => e = .returned (.bool true) ∧ Below w.heap.size w w' := by
  have H3 : Hid (∀ i, (fe i).size ≤ maxLen) := h3
  obtain ⟨i0, hi, hz0, hz1, hz2⟩ := info_parts info5
  clear h3
  have HTR : Hid (tot fe k + tot (fun i => fe (k + i)) (ne - k) = tot fe ne) := tot_rest fe (by omega)
  have HLR : Hid (lastOf (lastOf last fe k) (fun i => fe (k + i)) (ne - k) = lastOf last fe ne) := last_rest last fe (by omega)
  have HLY : Hid (layK (layK (bytesOf fb len0) fe k ++ [44]) (fun i => fe (k + i)) (ne - k) = layK (bytesOf fb len0) fe ne) := lay_rest _ fe hk0 hkn
  have HLL : Hid ((layK (bytesOf fb len0) fe k).length = len0 + tot fe k + 2 * k + (k - 1)) := by have := layK_length (bytesOf fb len0) fe k; rw [bytesOf_length] at this; exact this
  have hlM := layK_bound (bytesOf fb len0) fe ne ne (Nat.le_refl _) (by rw [bytesOf_length]; omega)
  go_enter Try.func6, Try.ntmps6
  go_wp2_with (first | (go_at_call 17; refine (guard17_yes a0 len0 cap0 last ae ne ce fe _ _ _ h0 h1 h2 H3.out hre hg).mono ?_; rintro e w' ⟨rfl, hw⟩; subst w') | (go_at_call 13; refine (stringsBytes_any ae ne ce fe _ _ (by omega) (by omega) hre).mono ?_; rintro e w' ⟨rfl, hw⟩; subst w') | (go_at_call 14; refine (cloneBytes_any a0 len0 cap0 fb _ (by omega) hrb).mono ?_; rintro e w1 ⟨v1, rfl, hown1, hbel1⟩; obtain ⟨ao1, cap1, rfl, hr1, _⟩ := row_of_owns hown1 _ (fun i hi => rowOf_at _ _ i hi); have hre1 := (hre.below hbel1).mono hbel1.size; clear hown1 hrb hre) | (go_at_call 15; refine (cloneStrings_some ae ne ce fe _ hae (by omega) hre1).mono ?_; rintro e w2 ⟨rfl, hsz2, hr2, hbel2⟩; have hrb2 := (hr1.below hbel2).mono hbel2.size; clear hr1 hre1))
  have hkI : (k : Int) ≤ (ne : Int) := by omega
  have hkI0 : (0 : Int) ≤ (k : Int) := by omega
  have hrb2d : RowAt w2.drew.heap.size w2.drew ao1 len0 (fun i => bcell (fb i)) := hrb2
  have hr2k : RowAt w2.drew.heap.size w2.drew (some ⟨w1.heap.size, 0, none⟩) k (fun i => Value.string (fe i)) := RowAt.take hr2 (by omega)
  have hszk : (bytesOf fb len0).length + 16 * k + tot fe k ≤ 1048576 := by have := tot_mono fe (show k ≤ ne by omega); rw [bytesOf_length]; omega
  go_region_held3 (fun _ => True) (trivial) (first | (go_at_call 14; refine (cloneBytes_any ao1 len0 cap1 fb w2.drew (by omega) hrb2d).mono ?_; rintro e w3 ⟨v3, rfl, hown3, hbel3⟩; have hre3 := hr2k.below hbel3; have hsz3 := hbel3.size) | (go_at_call 16; refine (zzfill_any _ last (bytesOf fb len0) _ k _ fe w2.drew.heap.size _ (clone_owned hown3) hsz3 hre3 hszk).mono ?_; rintro e w4 ⟨v4, rfl, hown4, hbel4⟩))
  have b4 : Below w2.heap.size w2 w4 := (((Below.refl _ _).drew).trans hbel3).trans hbel4
  have o4 : w4.ownsRow w2.heap.size 5 1 v4 (layK (bytesOf fb len0) fe k).length (bv (layK (bytesOf fb len0) fe k)) := hown4
  have hs4 := b4.size
  have hl4 := layK_bound (bytesOf fb len0) fe ne k (by omega) (by rw [bytesOf_length]; omega)
  clear hown4 hbel4 hsz3 hre3 hown3 hbel3 hszk hr2k hrb2d
  have hszr : (layK (bytesOf fb len0) fe k ++ [44]).length + 16 * (ne - k) + tot (fun i => fe (k + i)) (ne - k) ≤ 1048576 := by have e1 := HTR.out; have e2 := HLL.out; rw [List.length_append, e2]; simp only [List.length_cons, List.length_nil]; omega
  go_wp2_with (first | (at_builtin; refine wpList_append_own _ rfl (.tmp 73) (.tmp 74) 26 rfl w2.heap.size 5 i0 (.int .u8 0) 1 1 Try.underlying26 hi hz0 hz1 hz2 rfl (by decide) v4 _ _ rfl (o4.alloc _) ⟨w4.heap.size, 0, none⟩ 1 1 [.int .u8 44] rfl rfl (cell_one_new _ _ _) one44 (by unfold maxLen; omega) (by omega) (by simp; omega) ?_; intro v5 w5 hown5 hgrow5 _; rw [comma_after] at hown5; have o5 := owns_as hown5 rfl; have b5 : Below w2.heap.size w2 w5 := below_owned (o4.alloc _) hgrow5 (b4.alloc hs4 _) (by simp; omega); have hs5 := b5.size; have hre5 := RowAt.drop (hr2.below b5) k (ao := some ⟨w1.heap.size, k, none⟩) (fun _ => rfl); clear hown5 hgrow5) | (go_at_call 16; refine (zzfill_any v5 (lastOf last fe k) (layK (bytesOf fb len0) fe k ++ [44]) _ (ne - k) _ (fun i => fe (k + i)) w2.heap.size _ o5 hs5 hre5 hszr).mono ?_; rintro e w6 ⟨v6, rfl, hown6, hbel6⟩; have o6 := owns_as hown6 HLY.out; obtain ⟨ao6, cap6, rfl, hr6, _⟩ := got_row o6; have b6 : Below w2.heap.size w2 w6 := b5.trans hbel6; have hs6 := b6.size; have hrb6 := (hrb2.below b6).mono hs6; have hre6 := (hr2.below b6).mono hs6; clear o5 hre5 hown6 hbel6) | (go_at_call 14; refine (cloneBytes_any ao1 len0 cap1 fb _ (by omega) hrb6).mono ?_; rintro e w7 ⟨v7, rfl, hown7, hbel7⟩; have hre7 := hre6.below hbel7) | (go_at_call 16; refine (zzfill_any v7 last (bytesOf fb len0) _ ne _ fe w6.heap.size _ (clone_owned hown7) hbel7.size hre7 (by rw [bytesOf_length]; omega)).mono ?_; rintro e w8 ⟨v8, rfl, hown8, hbel8⟩; obtain ⟨ao8, cap8, rfl, hr8, _⟩ := got_row hown8; have b8 : Below w6.heap.size w6 w8 := hbel7.trans hbel8; have hr68 := (hr6.below b8).mono b8.size) | (go_at_call 18; refine (bytesEq_same ao6 _ cap6 ao8 cap8 _ _ (by omega) hr68 hr8).mono ?_; rintro e w9 ⟨rfl, hbel9⟩))
  go_ret
  have B9 : Below w.heap.size w w9 := (((hbel1.trans (hbel2.mono hbel1.size)).trans (b6.mono (Nat.le_trans hbel1.size hbel2.size))).trans (b8.mono (Nat.le_trans (Nat.le_trans hbel1.size hbel2.size) hs6))).trans (hbel9.mono (Nat.le_trans (Nat.le_trans (Nat.le_trans hbel1.size hbel2.size) hs6) b8.size))
  exact ⟨ret_true (by rw [HLR.out]; simp), B9⟩

set_option maxRecDepth 100000 in
set_option maxHeartbeats 1600000 in
theorem splits_zero (a0 : Option Addr) (len0 cap0 : Nat) (fb : Nat → UInt8) (last : ByteArray) (ae : Option Addr) (ne ce : Nat) (fe : Nat → ByteArray) (w : World)
    (h0 : len0 ≤ maxLen) (h1 : last.size ≤ maxLen) (h2 : ne ≤ maxLen) (h3 : ∀ i, (fe i).size ≤ maxLen) (hrb : RowAt w.heap.size w a0 len0 fun i => bcell (fb i)) (hre : RowAt w.heap.size w ae ne fun i => Value.string (fe i))
    (hg : len0 + last.size + ne + tot fe ne ≤ 1048576) (hne : ne ≤ 65536) (hsum : len0 + last.size + (16 * ne + tot fe ne) ≤ 1048576) (hae : ae.isNone = false) :
    Calls Try.prog 6 #[.slice a0 len0 cap0, .string last, .slice ae ne ce, .int .i64 0] w fun e w' => e = .returned (.bool true) ∧ Below w.heap.size w w' := by
  have H3 : Hid (∀ i, (fe i).size ≤ maxLen) := h3
  obtain ⟨i0, hi, hz0, hz1, hz2⟩ := info_parts info5
  clear h3
  have HLR : Hid (lastOf (lastOf last fe 0) fe ne = lastOf last fe ne) := last_zero last fe ne
  have HLY : Hid (layK (layK (bytesOf fb len0) fe 0) fe ne = layK (bytesOf fb len0) fe ne) := rfl
  have HLL : Hid ((layK (bytesOf fb len0) fe 0).length = len0 + tot fe 0 + 2 * 0 + (0 - 1)) := by have := layK_length (bytesOf fb len0) fe 0; rw [bytesOf_length] at this; exact this
  have hlM := layK_bound (bytesOf fb len0) fe ne ne (Nat.le_refl _) (by rw [bytesOf_length]; omega)
  go_enter Try.func6, Try.ntmps6
  go_wp2_with (first | (go_at_call 17; refine (guard17_yes a0 len0 cap0 last ae ne ce fe _ _ _ h0 h1 h2 H3.out hre hg).mono ?_; rintro e w' ⟨rfl, hw⟩; subst w') | (go_at_call 13; refine (stringsBytes_any ae ne ce fe _ _ (by omega) (by omega) hre).mono ?_; rintro e w' ⟨rfl, hw⟩; subst w') | (go_at_call 14; refine (cloneBytes_any a0 len0 cap0 fb _ (by omega) hrb).mono ?_; rintro e w1 ⟨v1, rfl, hown1, hbel1⟩; obtain ⟨ao1, cap1, rfl, hr1, _⟩ := row_of_owns hown1 _ (fun i hi => rowOf_at _ _ i hi); have hre1 := (hre.below hbel1).mono hbel1.size; clear hown1 hrb hre) | (go_at_call 15; refine (cloneStrings_some ae ne ce fe _ hae (by omega) hre1).mono ?_; rintro e w2 ⟨rfl, hsz2, hr2, hbel2⟩; have hrb2 := (hr1.below hbel2).mono hbel2.size; clear hr1 hre1))
  have hkI : (0 : Int) ≤ (ne : Int) := by omega
  have hkI0 : (0 : Int) ≤ (0 : Int) := by omega
  have hrb2d : RowAt w2.drew.heap.size w2.drew ao1 len0 (fun i => bcell (fb i)) := hrb2
  have hr2k : RowAt w2.drew.heap.size w2.drew (some ⟨w1.heap.size, 0, none⟩) 0 (fun i => Value.string (fe i)) := RowAt.take hr2 (by omega)
  have hszk : (bytesOf fb len0).length + 16 * 0 + tot fe 0 ≤ 1048576 := by have := tot_mono fe (show 0 ≤ ne by omega); rw [bytesOf_length]; omega
  go_region_held3 (fun _ => True) (trivial) (first | (go_at_call 14; refine (cloneBytes_any ao1 len0 cap1 fb w2.drew (by omega) hrb2d).mono ?_; rintro e w3 ⟨v3, rfl, hown3, hbel3⟩; have hre3 := hr2k.below hbel3; have hsz3 := hbel3.size) | (go_at_call 16; refine (zzfill_any _ last (bytesOf fb len0) _ 0 _ fe w2.drew.heap.size _ (clone_owned hown3) hsz3 hre3 hszk).mono ?_; rintro e w4 ⟨v4, rfl, hown4, hbel4⟩))
  have b4 : Below w2.heap.size w2 w4 := (((Below.refl _ _).drew).trans hbel3).trans hbel4
  have o4 : w4.ownsRow w2.heap.size 5 1 v4 (layK (bytesOf fb len0) fe 0).length (bv (layK (bytesOf fb len0) fe 0)) := hown4
  have hs4 := b4.size
  have hl4 := layK_bound (bytesOf fb len0) fe ne 0 (by omega) (by rw [bytesOf_length]; omega)
  clear hown4 hbel4 hsz3 hre3 hown3 hbel3 hszk hr2k hrb2d
  have hszr : (layK (bytesOf fb len0) fe 0).length + 16 * ne + tot fe ne ≤ 1048576 := by rw [HLL.out]; simp only [tot]; omega
  have hre5 := hr2.below b4
  go_wp2_with (first | (go_at_call 16; refine (zzfill_any v4 (lastOf last fe 0) (layK (bytesOf fb len0) fe 0) _ ne _ fe w2.heap.size _ o4 hs4 hre5 hszr).mono ?_; rintro e w6 ⟨v6, rfl, hown6, hbel6⟩; have o6 := owns_as hown6 HLY.out; obtain ⟨ao6, cap6, rfl, hr6, _⟩ := got_row o6; have b6 : Below w2.heap.size w2 w6 := b4.trans hbel6; have hs6 := b6.size; have hrb6 := (hrb2.below b6).mono hs6; have hre6 := (hr2.below b6).mono hs6; clear o4 hre5 hown6 hbel6) | (go_at_call 14; refine (cloneBytes_any ao1 len0 cap1 fb _ (by omega) hrb6).mono ?_; rintro e w7 ⟨v7, rfl, hown7, hbel7⟩; have hre7 := hre6.below hbel7) | (go_at_call 16; refine (zzfill_any v7 last (bytesOf fb len0) _ ne _ fe w6.heap.size _ (clone_owned hown7) hbel7.size hre7 (by rw [bytesOf_length]; omega)).mono ?_; rintro e w8 ⟨v8, rfl, hown8, hbel8⟩; obtain ⟨ao8, cap8, rfl, hr8, _⟩ := got_row hown8; have b8 : Below w6.heap.size w6 w8 := hbel7.trans hbel8; have hr68 := (hr6.below b8).mono b8.size) | (go_at_call 18; refine (bytesEq_same ao6 _ cap6 ao8 cap8 _ _ (by omega) hr68 hr8).mono ?_; rintro e w9 ⟨rfl, hbel9⟩))
  go_ret
  have B9 : Below w.heap.size w w9 := (((hbel1.trans (hbel2.mono hbel1.size)).trans (b6.mono (Nat.le_trans hbel1.size hbel2.size))).trans (b8.mono (Nat.le_trans (Nat.le_trans hbel1.size hbel2.size) hs6))).trans (hbel9.mono (Nat.le_trans (Nat.le_trans (Nat.le_trans hbel1.size hbel2.size) hs6) b8.size))
  exact ⟨ret_true (by rw [HLR.out]; simp), B9⟩

set_option maxRecDepth 100000 in
set_option maxHeartbeats 1600000 in
theorem splits_nil (a0 : Option Addr) (len0 cap0 : Nat) (fb : Nat → UInt8) (last : ByteArray) (ae : Option Addr) (ne ce : Nat) (fe : Nat → ByteArray) (w : World)
    (h0 : len0 ≤ maxLen) (h1 : last.size ≤ maxLen) (h2 : ne ≤ maxLen) (h3 : ∀ i, (fe i).size ≤ maxLen) (hrb : RowAt w.heap.size w a0 len0 fun i => bcell (fb i)) (hre : RowAt w.heap.size w ae ne fun i => Value.string (fe i))
    (hg : len0 + last.size + ne + tot fe ne ≤ 1048576) (hne : ne ≤ 65536) (hsum : len0 + last.size + (16 * ne + tot fe ne) ≤ 1048576) (hae : ae.isNone = true) :
    Calls Try.prog 6 #[.slice a0 len0 cap0, .string last, .slice ae ne ce, .int .i64 0] w fun e w' => e = .returned (.bool true) ∧ Below w.heap.size w w' := by
  have H3 : Hid (∀ i, (fe i).size ≤ maxLen) := h3
  obtain ⟨i0, hi, hz0, hz1, hz2⟩ := info_parts info5
  clear h3
  have HLR : Hid (lastOf (lastOf last fe 0) fe ne = lastOf last fe ne) := last_zero last fe ne
  have HLY : Hid (layK (layK (bytesOf fb len0) fe 0) fe ne = layK (bytesOf fb len0) fe ne) := rfl
  have HLL : Hid ((layK (bytesOf fb len0) fe 0).length = len0 + tot fe 0 + 2 * 0 + (0 - 1)) := by have := layK_length (bytesOf fb len0) fe 0; rw [bytesOf_length] at this; exact this
  have hlM := layK_bound (bytesOf fb len0) fe ne ne (Nat.le_refl _) (by rw [bytesOf_length]; omega)
  go_enter Try.func6, Try.ntmps6
  go_wp2_with (first | (go_at_call 17; refine (guard17_yes a0 len0 cap0 last ae ne ce fe _ _ _ h0 h1 h2 H3.out hre hg).mono ?_; rintro e w' ⟨rfl, hw⟩; subst w') | (go_at_call 13; refine (stringsBytes_any ae ne ce fe _ _ (by omega) (by omega) hre).mono ?_; rintro e w' ⟨rfl, hw⟩; subst w') | (go_at_call 14; refine (cloneBytes_any a0 len0 cap0 fb _ (by omega) hrb).mono ?_; rintro e w1 ⟨v1, rfl, hown1, hbel1⟩; obtain ⟨ao1, cap1, rfl, hr1, _⟩ := row_of_owns hown1 _ (fun i hi => rowOf_at _ _ i hi); have hre1 := (hre.below hbel1).mono hbel1.size; clear hown1 hrb hre) | (go_at_call 15; refine (cloneStrings_none ae ne ce fe _ hae hre1).mono ?_; rintro e w2 ⟨rfl, hsz2, hr2, hbel2⟩; have hrb2 := (hr1.below hbel2).mono hbel2.size; clear hr1 hre1))
  have hkI : (0 : Int) ≤ (ne : Int) := by omega
  have hkI0 : (0 : Int) ≤ (0 : Int) := by omega
  have hrb2d : RowAt w2.drew.heap.size w2.drew ao1 len0 (fun i => bcell (fb i)) := hrb2
  have hr2k : RowAt w2.drew.heap.size w2.drew none 0 (fun i => Value.string (fe i)) := RowAt.take hr2 (by omega)
  have hszk : (bytesOf fb len0).length + 16 * 0 + tot fe 0 ≤ 1048576 := by have := tot_mono fe (show 0 ≤ ne by omega); rw [bytesOf_length]; omega
  go_region_held3 (fun _ => True) (trivial) (first | (go_at_call 14; refine (cloneBytes_any ao1 len0 cap1 fb w2.drew (by omega) hrb2d).mono ?_; rintro e w3 ⟨v3, rfl, hown3, hbel3⟩; have hre3 := hr2k.below hbel3; have hsz3 := hbel3.size) | (go_at_call 16; refine (zzfill_any _ last (bytesOf fb len0) _ 0 _ fe w2.drew.heap.size _ (clone_owned hown3) hsz3 hre3 hszk).mono ?_; rintro e w4 ⟨v4, rfl, hown4, hbel4⟩))
  have b4 : Below w2.heap.size w2 w4 := (((Below.refl _ _).drew).trans hbel3).trans hbel4
  have o4 : w4.ownsRow w2.heap.size 5 1 v4 (layK (bytesOf fb len0) fe 0).length (bv (layK (bytesOf fb len0) fe 0)) := hown4
  have hs4 := b4.size
  have hl4 := layK_bound (bytesOf fb len0) fe ne 0 (by omega) (by rw [bytesOf_length]; omega)
  clear hown4 hbel4 hsz3 hre3 hown3 hbel3 hszk hr2k hrb2d
  have hszr : (layK (bytesOf fb len0) fe 0).length + 16 * ne + tot fe ne ≤ 1048576 := by rw [HLL.out]; simp only [tot]; omega
  have hre5 := hr2.below b4
  go_wp2_with (first | (go_at_call 16; refine (zzfill_any v4 (lastOf last fe 0) (layK (bytesOf fb len0) fe 0) _ ne _ fe w2.heap.size _ o4 hs4 hre5 hszr).mono ?_; rintro e w6 ⟨v6, rfl, hown6, hbel6⟩; have o6 := owns_as hown6 HLY.out; obtain ⟨ao6, cap6, rfl, hr6, _⟩ := got_row o6; have b6 : Below w2.heap.size w2 w6 := b4.trans hbel6; have hs6 := b6.size; have hrb6 := (hrb2.below b6).mono hs6; have hre6 := (hr2.below b6).mono hs6; clear o4 hre5 hown6 hbel6) | (go_at_call 14; refine (cloneBytes_any ao1 len0 cap1 fb _ (by omega) hrb6).mono ?_; rintro e w7 ⟨v7, rfl, hown7, hbel7⟩; have hre7 := hre6.below hbel7) | (go_at_call 16; refine (zzfill_any v7 last (bytesOf fb len0) _ ne _ fe w6.heap.size _ (clone_owned hown7) hbel7.size hre7 (by rw [bytesOf_length]; omega)).mono ?_; rintro e w8 ⟨v8, rfl, hown8, hbel8⟩; obtain ⟨ao8, cap8, rfl, hr8, _⟩ := got_row hown8; have b8 : Below w6.heap.size w6 w8 := hbel7.trans hbel8; have hr68 := (hr6.below b8).mono b8.size) | (go_at_call 18; refine (bytesEq_same ao6 _ cap6 ao8 cap8 _ _ (by omega) hr68 hr8).mono ?_; rintro e w9 ⟨rfl, hbel9⟩))
  go_ret
  have B9 : Below w.heap.size w w9 := (((hbel1.trans (hbel2.mono hbel1.size)).trans (b6.mono (Nat.le_trans hbel1.size hbel2.size))).trans (b8.mono (Nat.le_trans (Nat.le_trans hbel1.size hbel2.size) hs6))).trans (hbel9.mono (Nat.le_trans (Nat.le_trans (Nat.le_trans hbel1.size hbel2.size) hs6) b8.size))
  exact ⟨ret_true (by rw [HLR.out]; simp), B9⟩

set_option maxRecDepth 100000 in
set_option maxHeartbeats 1600000 in
theorem splits_full (a0 : Option Addr) (len0 cap0 : Nat) (fb : Nat → UInt8) (last : ByteArray) (ae : Option Addr) (ne ce : Nat) (fe : Nat → ByteArray) (w : World)
    (h0 : len0 ≤ maxLen) (h1 : last.size ≤ maxLen) (h2 : ne ≤ maxLen) (h3 : ∀ i, (fe i).size ≤ maxLen) (hrb : RowAt w.heap.size w a0 len0 fun i => bcell (fb i)) (hre : RowAt w.heap.size w ae ne fun i => Value.string (fe i))
    (hg : len0 + last.size + ne + tot fe ne ≤ 1048576) (hne : ne ≤ 65536) (hsum : len0 + last.size + (16 * ne + tot fe ne) ≤ 1048576) (hae : ae.isNone = false) (hk0 : 0 < ne) :
    Calls Try.prog 6 #[.slice a0 len0 cap0, .string last, .slice ae ne ce, .int .i64 (ne : Int)] w fun e w' => e = .returned (.bool true) ∧ Below w.heap.size w w' := by
  have H3 : Hid (∀ i, (fe i).size ≤ maxLen) := h3
  obtain ⟨i0, hi, hz0, hz1, hz2⟩ := info_parts info5
  clear h3
  have HLR : Hid (lastOf (lastOf last fe ne) fe 0 = lastOf last fe ne) := rfl
  have HLY : Hid (layK (layK (bytesOf fb len0) fe ne) fe 0 = layK (bytesOf fb len0) fe ne) := rfl
  have HLL : Hid ((layK (bytesOf fb len0) fe ne).length = len0 + tot fe ne + 2 * ne + (ne - 1)) := by have := layK_length (bytesOf fb len0) fe ne; rw [bytesOf_length] at this; exact this
  have hlM := layK_bound (bytesOf fb len0) fe ne ne (Nat.le_refl _) (by rw [bytesOf_length]; omega)
  go_enter Try.func6, Try.ntmps6
  go_wp2_with (first | (go_at_call 17; refine (guard17_yes a0 len0 cap0 last ae ne ce fe _ _ _ h0 h1 h2 H3.out hre hg).mono ?_; rintro e w' ⟨rfl, hw⟩; subst w') | (go_at_call 13; refine (stringsBytes_any ae ne ce fe _ _ (by omega) (by omega) hre).mono ?_; rintro e w' ⟨rfl, hw⟩; subst w') | (go_at_call 14; refine (cloneBytes_any a0 len0 cap0 fb _ (by omega) hrb).mono ?_; rintro e w1 ⟨v1, rfl, hown1, hbel1⟩; obtain ⟨ao1, cap1, rfl, hr1, _⟩ := row_of_owns hown1 _ (fun i hi => rowOf_at _ _ i hi); have hre1 := (hre.below hbel1).mono hbel1.size; clear hown1 hrb hre) | (go_at_call 15; refine (cloneStrings_some ae ne ce fe _ hae (by omega) hre1).mono ?_; rintro e w2 ⟨rfl, hsz2, hr2, hbel2⟩; have hrb2 := (hr1.below hbel2).mono hbel2.size; clear hr1 hre1))
  have hkI : (ne : Int) ≤ (ne : Int) := by omega
  have hkI0 : (0 : Int) ≤ (ne : Int) := by omega
  have hrb2d : RowAt w2.drew.heap.size w2.drew ao1 len0 (fun i => bcell (fb i)) := hrb2
  have hr2k : RowAt w2.drew.heap.size w2.drew (some ⟨w1.heap.size, 0, none⟩) ne (fun i => Value.string (fe i)) := RowAt.take hr2 (by omega)
  have hszk : (bytesOf fb len0).length + 16 * ne + tot fe ne ≤ 1048576 := by have := tot_mono fe (show ne ≤ ne by omega); rw [bytesOf_length]; omega
  go_region_held3 (fun _ => True) (trivial) (first | (go_at_call 14; refine (cloneBytes_any ao1 len0 cap1 fb w2.drew (by omega) hrb2d).mono ?_; rintro e w3 ⟨v3, rfl, hown3, hbel3⟩; have hre3 := hr2k.below hbel3; have hsz3 := hbel3.size) | (go_at_call 16; refine (zzfill_any _ last (bytesOf fb len0) _ ne _ fe w2.drew.heap.size _ (clone_owned hown3) hsz3 hre3 hszk).mono ?_; rintro e w4 ⟨v4, rfl, hown4, hbel4⟩))
  have b4 : Below w2.heap.size w2 w4 := (((Below.refl _ _).drew).trans hbel3).trans hbel4
  have o4 : w4.ownsRow w2.heap.size 5 1 v4 (layK (bytesOf fb len0) fe ne).length (bv (layK (bytesOf fb len0) fe ne)) := hown4
  have hs4 := b4.size
  have hl4 := layK_bound (bytesOf fb len0) fe ne ne (by omega) (by rw [bytesOf_length]; omega)
  clear hown4 hbel4 hsz3 hre3 hown3 hbel3 hszk hr2k hrb2d
  have hszr : (layK (bytesOf fb len0) fe ne).length + 16 * 0 + tot fe 0 ≤ 1048576 := by simp only [tot]; omega
  have hre5 : RowAt w2.heap.size w4 (some ⟨w1.heap.size, 0, none⟩) 0 (fun i => Value.string (fe i)) := fun h => absurd h (Nat.lt_irrefl 0)
  go_wp2_with (first | (go_at_call 16; refine (zzfill_any v4 (lastOf last fe ne) (layK (bytesOf fb len0) fe ne) _ 0 _ fe w2.heap.size _ o4 hs4 hre5 hszr).mono ?_; rintro e w6 ⟨v6, rfl, hown6, hbel6⟩; have o6 := owns_as hown6 HLY.out; obtain ⟨ao6, cap6, rfl, hr6, _⟩ := got_row o6; have b6 : Below w2.heap.size w2 w6 := b4.trans hbel6; have hs6 := b6.size; have hrb6 := (hrb2.below b6).mono hs6; have hre6 := (hr2.below b6).mono hs6; clear o4 hre5 hown6 hbel6) | (go_at_call 14; refine (cloneBytes_any ao1 len0 cap1 fb _ (by omega) hrb6).mono ?_; rintro e w7 ⟨v7, rfl, hown7, hbel7⟩; have hre7 := hre6.below hbel7) | (go_at_call 16; refine (zzfill_any v7 last (bytesOf fb len0) _ ne _ fe w6.heap.size _ (clone_owned hown7) hbel7.size hre7 (by rw [bytesOf_length]; omega)).mono ?_; rintro e w8 ⟨v8, rfl, hown8, hbel8⟩; obtain ⟨ao8, cap8, rfl, hr8, _⟩ := got_row hown8; have b8 : Below w6.heap.size w6 w8 := hbel7.trans hbel8; have hr68 := (hr6.below b8).mono b8.size) | (go_at_call 18; refine (bytesEq_same ao6 _ cap6 ao8 cap8 _ _ (by omega) hr68 hr8).mono ?_; rintro e w9 ⟨rfl, hbel9⟩))
  go_ret
  have B9 : Below w.heap.size w w9 := (((hbel1.trans (hbel2.mono hbel1.size)).trans (b6.mono (Nat.le_trans hbel1.size hbel2.size))).trans (b8.mono (Nat.le_trans (Nat.le_trans hbel1.size hbel2.size) hs6))).trans (hbel9.mono (Nat.le_trans (Nat.le_trans (Nat.le_trans hbel1.size hbel2.size) hs6) b8.size))
  exact ⟨ret_true (by rw [HLR.out]; simp), B9⟩

set_option maxRecDepth 100000 in
set_option maxHeartbeats 1600000 in
theorem splits_any (a0 : Option Addr) (len0 cap0 : Nat) (fb : Nat → UInt8) (last : ByteArray) (ae : Option Addr) (ne ce : Nat) (fe : Nat → ByteArray) (kk : Int) (w : World)
    (h0 : len0 ≤ maxLen) (h1 : last.size ≤ maxLen) (h2 : ne ≤ maxLen) (h3 : ∀ i, (fe i).size ≤ maxLen) (hrb : RowAt w.heap.size w a0 len0 fun i => bcell (fb i)) (hre : RowAt w.heap.size w ae ne fun i => Value.string (fe i)) :
    Calls Try.prog 6 #[.slice a0 len0 cap0, .string last, .slice ae ne ce, .int .i64 kk] w fun e w' => e = .returned (.bool true) ∧ Below w.heap.size w w' := by
  by_cases hg : len0 + last.size + ne + tot fe ne ≤ 1048576
  · by_cases hne : ne ≤ 65536
    · by_cases hsum : len0 + last.size + (16 * ne + tot fe ne) ≤ 1048576
      · by_cases hk1 : kk < 0
        · have H3 : Hid (∀ i, (fe i).size ≤ maxLen) := h3
          clear h3
          go_enter Try.func6, Try.ntmps6
          go_wp2_with (first | (go_at_call 17; refine (guard17_yes a0 len0 cap0 last ae ne ce fe _ _ _ h0 h1 h2 H3.out hre hg).mono ?_; rintro e w' ⟨rfl, hw⟩; subst w') | (go_at_call 13; refine (stringsBytes_any ae ne ce fe _ _ (by omega) (by omega) hre).mono ?_; rintro e w' ⟨rfl, hw⟩; subst w'))
          go_ret
          exact ⟨rfl, Below.refl _ _⟩
        · by_cases hk2 : (ne : Int) < kk
          · have hk3 : 0 ≤ kk := by omega
            have H3 : Hid (∀ i, (fe i).size ≤ maxLen) := h3
            clear h3
            go_enter Try.func6, Try.ntmps6
            go_wp2_with (first | (go_at_call 17; refine (guard17_yes a0 len0 cap0 last ae ne ce fe _ _ _ h0 h1 h2 H3.out hre hg).mono ?_; rintro e w' ⟨rfl, hw⟩; subst w') | (go_at_call 13; refine (stringsBytes_any ae ne ce fe _ _ (by omega) (by omega) hre).mono ?_; rintro e w' ⟨rfl, hw⟩; subst w'))
            go_ret
            exact ⟨rfl, Below.refl _ _⟩
          · obtain ⟨k, rfl⟩ := Int.eq_ofNat_of_zero_le (Int.not_lt.1 hk1)
            cases hae : ae.isNone with
            | true =>
              have e0 : ne = 0 := by
                by_cases h : 0 < ne
                · obtain ⟨b, off, rfl, _⟩ := hre h
                  cases hae
                · omega
              have ek : k = 0 := by omega
              subst ek
              exact splits_nil a0 len0 cap0 fb last ae ne ce fe w h0 h1 h2 h3 hrb hre hg hne hsum hae
            | false =>
              by_cases hz : k = 0
              · subst hz
                exact splits_zero a0 len0 cap0 fb last ae ne ce fe w h0 h1 h2 h3 hrb hre hg hne hsum hae
              · by_cases hf : k = ne
                · subst hf
                  exact splits_full a0 len0 cap0 fb last ae k ce fe w h0 h1 h2 h3 hrb hre hg hne hsum hae (by omega)
                · exact splits_mid a0 len0 cap0 fb last ae ne ce fe k w h0 h1 h2 h3 hrb hre hg hne hsum hae (by omega) (by omega)
      · have H3 : Hid (∀ i, (fe i).size ≤ maxLen) := h3
        clear h3
        go_enter Try.func6, Try.ntmps6
        go_wp2_with (first | (go_at_call 17; refine (guard17_yes a0 len0 cap0 last ae ne ce fe _ _ _ h0 h1 h2 H3.out hre hg).mono ?_; rintro e w' ⟨rfl, hw⟩; subst w') | (go_at_call 13; refine (stringsBytes_any ae ne ce fe _ _ (by omega) (by omega) hre).mono ?_; rintro e w' ⟨rfl, hw⟩; subst w'))
        go_ret
        exact ⟨rfl, Below.refl _ _⟩
    · have H3 : Hid (∀ i, (fe i).size ≤ maxLen) := h3
      clear h3
      go_enter Try.func6, Try.ntmps6
      go_wp2_with (first | (go_at_call 17; refine (guard17_yes a0 len0 cap0 last ae ne ce fe _ _ _ h0 h1 h2 H3.out hre hg).mono ?_; rintro e w' ⟨rfl, hw⟩; subst w'))
      go_ret
      exact ⟨rfl, Below.refl _ _⟩
  · have H3 : Hid (∀ i, (fe i).size ≤ maxLen) := h3
    clear h3
    go_enter Try.func6, Try.ntmps6
    go_wp2_with (first | (go_at_call 17; refine (guard17_no a0 len0 cap0 last ae ne ce fe _ _ _ h0 h1 h2 H3.out hre hg).mono ?_; rintro e w' ⟨rfl, hw⟩; subst w'))
    go_ret
    exact ⟨rfl, Below.refl _ _⟩

end Go.Proofs.Qxb6603940a
