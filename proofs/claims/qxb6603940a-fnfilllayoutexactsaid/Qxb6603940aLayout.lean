/-
  THE WALK of 'FnFillLayoutExact'.
-/
import Derived.Test.Qxb6603940aGot
namespace Go.Proofs.Qxb6603940a
open Go.RowKit

set_option maxRecDepth 100000 in
set_option maxHeartbeats 1600000 in
theorem layout_in (a0 : Option Addr) (len0 cap0 : Nat) (fb : Nat → UInt8) (last : ByteArray) (ae : Option Addr) (ne ce : Nat) (fe : Nat → ByteArray) (w : World)
    (h0 : len0 ≤ maxLen) (h1 : last.size ≤ maxLen) (h2 : ne ≤ maxLen) (h3 : ∀ i, (fe i).size ≤ maxLen) (hrb : RowAt w.heap.size w a0 len0 fun i => bcell (fb i)) (hre : RowAt w.heap.size w ae ne fun i => Value.string (fe i))
    (hg : len0 + last.size + ne + tot fe ne ≤ 1048576) (hne : ne ≤ 65536) (hsum : len0 + last.size + (16 * ne + tot fe ne) ≤ 1048576) :
    Calls Try.prog 5 #[.slice a0 len0 cap0, .string last, .slice ae ne ce] w fun e w' => e = .returned (.bool true) ∧ Below w.heap.size w w' := by
  have H3 : Hid (∀ i, (fe i).size ≤ maxLen) := h3
  clear h3
  go_enter Try.func5, Try.ntmps5
  go_wp2_with (first | (go_at_call 12; refine (guard12_yes a0 len0 cap0 last ae ne ce fe _ _ h0 h1 h2 H3.out hre hg).mono ?_; rintro e w' ⟨rfl, hw⟩; subst w') | (go_at_call 13; refine (stringsBytes_any ae ne ce fe _ _ (by omega) (by omega) hre).mono ?_; rintro e w' ⟨rfl, hw⟩; subst w') | (go_at_call 14; refine (cloneBytes_any a0 len0 cap0 fb _ (by omega) hrb).mono ?_; rintro e w1 ⟨v1, rfl, hown1, hbel1⟩; obtain ⟨ao1, cap1, rfl, hr1, _⟩ := row_of_owns hown1 _ (fun i hi => rowOf_at _ _ i hi); have hre1 := (hre.below hbel1).mono hbel1.size; clear hown1 hrb hre) | (go_at_call 15; refine (cloneStrings_any ae ne ce fe _ (by omega) hre1).mono ?_; rintro e w2 ⟨v2, rfl, hown2, hbel2⟩; obtain ⟨ae2, cap2, rfl, hr2, _⟩ := row_of_owns hown2 _ (fun i hi => rowOf_at _ _ i hi); have hrb2 := (hr1.below hbel2).mono hbel2.size; clear hown2 hr1 hre1) | (go_at_call 14; refine (cloneBytes_any ao1 len0 cap1 fb _ (by omega) hrb2).mono ?_; rintro e w3 ⟨v3, rfl, hown3, hbel3⟩; have hre3 := hr2.below hbel3; have hsz3 := hbel3.size) | (go_at_call 16; refine (zzfill_any _ last (bytesOf fb len0) ae2 ne cap2 fe w2.heap.size _ (clone_owned hown3) hsz3 hre3 (by rw [bytesOf_length]; omega)).mono ?_; rintro e w4 ⟨v4, rfl, hown4, hbel4⟩; obtain ⟨ao4, cap4, rfl, hr4, _⟩ := got_row hown4))
  all_goals
    have HB : Hid (Below w.heap.size w w4) := ((hbel1.trans (hbel2.mono hbel1.size)).trans (hbel3.mono (Nat.le_trans hbel1.size hbel2.size))).trans (hbel4.mono (Nat.le_trans hbel1.size hbel2.size))
    have hs4 : w2.heap.size ≤ w4.heap.size := Nat.le_trans hsz3 hbel4.size
    have rB := ((hrb2.below hbel3).below hbel4).mono hs4
    have rE := (hre3.below hbel4).mono hs4
    have HML := layK_length (bytesOf fb len0) fe ne
    rw [bytesOf_length] at HML
    obtain ⟨bs, hbs⟩ : ∃ bs, bs = bytesOf fb len0 := ⟨_, rfl⟩
    have HBS : Hid (bs = bytesOf fb len0) := hbs
    rw [← hbs] at HML hr4 ⊢
    clear hbs hown4 hbel1 hbel2 hbel3 hbel4 hrb2 hr2 hre3 hown3 hsz3 hs4 H3
    generalize hM : (layK bs fe ne).length = M at hr4 HML ⊢
    have HM : Hid ((layK bs fe ne).length = M) := hM
    have hM1 : M ≤ len0 + tot fe ne + 2 * ne + (ne - 1) := by omega
    have hM2 : len0 + tot fe ne + 2 * ne + (ne - 1) ≤ M := by omega
    have rG := hr4
    clear hM HML hr4
    go_loop [10, 11] (fun t i => ∃ k : Nat, k ≤ ne ∧ i = .int .i64 k ∧ t = .int .i64 ((len0 + 2 * ne + (ne - 1) + tot fe k : Nat) : Int)) (fun _ i => ne - (intOf i).toNat)
    case atStart => exact ⟨0, Nat.zero_le _, rfl, by simp [tot]; omega⟩
    case round =>
      obtain ⟨k, hk, rfl, rfl⟩ := hrel
      by_cases hlt : k < ne
      · obtain ⟨be, oe, rfl, hbe, hce⟩ := rE (by omega)
        have hcek := hce k hlt
        have hs := size_le_tot fe hlt
        have HT : Hid (tot fe (k + 1) = tot fe k + (fe k).size) := rfl
        clear hce rE rB rG
        go_wp2
        go_round
        case rel => exact ⟨k + 1, by omega, by go_num, by rw [HT.out]; go_num⟩
        case measure => simp [intOf]; omega
      · have hkn : ne = k := by omega
        subst hkn
        go_wp2
        go_loopw [12] (fun i wr => ∃ k : Nat, k ≤ len0 ∧ i = .int .i64 k ∧ Below w4.heap.size w4 wr) (fun i _ => len0 - (intOf i).toNat)
        case atStart => exact ⟨0, Nat.zero_le _, rfl, Below.refl _ _⟩
        case round =>
          obtain ⟨k, hk, rfl, hbq⟩ := hrel
          by_cases hlt : k < len0
          · obtain ⟨bb, ob, rfl, hbb, hcb⟩ := rB (by omega)
            obtain ⟨g, og, rfl, hgl, hcg⟩ := rG (by omega)
            have cb := (hbq.cell (p := ⟨bb, ob + k, none⟩) hbb).trans (hcb k hlt)
            have hgk := got_cell hcg HM.out (show (layK bs fe ne)[k]? = some (fb k) by rw [HBS.out, layK_body _ _ (by rw [bytesOf_length]; exact hlt), bytesOf_at _ hlt])
            have cg := (hbq.cell (p := ⟨g, og + k, none⟩) hgl).trans hgk.2
            have hkM := hgk.1
            unfold bcell at cb
            clear hcb hcg hgk rB rE rG
            go_wp2
            go_quiet (fail)
            go_wp2
            go_roundw
            case rel => exact ⟨k + 1, by omega, by go_num, below_drewN hbq _⟩
            case measure => simp [intOf]; omega
          · go_wp2
            go_loopw [13, 14] (fun pos i wq => ∃ k : Nat, k ≤ ne ∧ i = .int .i64 k ∧ pos = .int .i64 (((layK bs fe k).length : Nat) : Int) ∧ Below w4.heap.size w4 wq) (fun _ i _ => ne - (intOf i).toNat)
            case atStart => exact ⟨0, Nat.zero_le _, rfl, by rw [HBS.out]; simp [layK, bytesOf_length], hbq⟩
            case round =>
              clear hbq hlt hk rB
              obtain ⟨k, hk, rfl, rfl, hbq⟩ := hrel
              by_cases hlt : k < ne
              · obtain ⟨g, og, rfl, hgl, hcg⟩ := rG (by omega)
                obtain ⟨be, oe, rfl, hbe, hce⟩ := rE (by omega)
                have HNX : Hid (_) := qpos_next bs fe k
                generalize hP : (layK bs fe k).length = P
                by_cases h0k : 0 < k
                · have hqp : qpos bs fe k = P + 1 := by rw [qpos, hP, if_neg (by omega)]
                  have hnext : (layK bs fe (k + 1)).length = P + 1 + 1 + (fe k).size + 1 := by rw [HNX.out, hqp]
                  have hcm := got_cell hcg HM.out (hP ▸ layK_comma bs fe hlt (by omega))
                  obtain ⟨hcm1, hcm2⟩ := hcm
                  have ccm := (hbq.cell (p := ⟨g, og + P, none⟩) hgl).trans hcm2
                  clear hcm2 hP HNX

                  have hpo := got_cell hcg HM.out (layK_open bs fe hlt)
                  have hpc := got_cell hcg HM.out (layK_close bs fe hlt)
                  have HIN : Hid (∀ t, (ht : t < (fe k).size) → P + 1 + 1 + t < M ∧ w4.cell? ⟨g, og + (P + 1 + 1 + t), none⟩ = some (.int .u8 ((fe k)[t].toNat : Int))) := fun t ht => by
                    have := got_cell hcg HM.out (layK_entry bs fe hlt ht)
                    rw [hqp] at this
                    exact this
                  rw [hqp] at hpo hpc
                  obtain ⟨hpo1, hpo2⟩ := hpo
                  obtain ⟨hpc1, hpc2⟩ := hpc
                  have cpo := (hbq.cell (p := ⟨g, og + (P + 1), none⟩) hgl).trans hpo2
                  have cen := (hbq.cell (p := ⟨be, oe + k, none⟩) hbe).trans (hce k hlt)
                  have HN : Hid _ := hnext
                  clear hpo2 hcg hce rE rG hnext
                  go_wp2
                  go_loopw [16] (fun j w5 => ∃ t : Nat, t ≤ (fe k).size ∧ j = .int .i64 t ∧ Below w4.heap.size w4 w5) (fun j _ => (fe k).size - (intOf j).toNat)
                  case atStart => exact ⟨0, Nat.zero_le _, rfl, hbq⟩
                  case round =>
                    obtain ⟨t, ht, rfl, hbt⟩ := hrel
                    by_cases htl : t < (fe k).size
                    · have hin := HIN.out t htl
                      obtain ⟨hin1, hin2⟩ := hin
                      have cin := (hbt.cell (p := ⟨g, og + (P + 1 + 1 + t), none⟩) hgl).trans hin2
                      clear hin2 cpo cen hpc2
                      go_wp2
                      go_quiet (fail)
                      go_wp2
                      go_roundw
                      case rel => exact ⟨t + 1, by omega, by go_num, below_drewN hbt _⟩
                      case measure => simp [intOf]; omega
                    · have cpc := (hbt.cell (p := ⟨g, og + (P + 1 + 1 + (fe k).size), none⟩) hgl).trans hpc2
                      clear cpo cen hpc2
                      go_wp2
                      go_roundw
                      case rel => exact ⟨k + 1, by omega, by go_num, by rw [HN.out]; go_num, hbt⟩
                      case measure => simp [intOf]; omega
                · have hqp : qpos bs fe k = P := by rw [qpos, hP, if_pos (by omega), Nat.add_zero]
                  have hnext : (layK bs fe (k + 1)).length = P + 1 + (fe k).size + 1 := by rw [HNX.out, hqp]
                  clear hP HNX

                  have hpo := got_cell hcg HM.out (layK_open bs fe hlt)
                  have hpc := got_cell hcg HM.out (layK_close bs fe hlt)
                  have HIN : Hid (∀ t, (ht : t < (fe k).size) → P + 1 + t < M ∧ w4.cell? ⟨g, og + (P + 1 + t), none⟩ = some (.int .u8 ((fe k)[t].toNat : Int))) := fun t ht => by
                    have := got_cell hcg HM.out (layK_entry bs fe hlt ht)
                    rw [hqp] at this
                    exact this
                  rw [hqp] at hpo hpc
                  obtain ⟨hpo1, hpo2⟩ := hpo
                  obtain ⟨hpc1, hpc2⟩ := hpc
                  have cpo := (hbq.cell (p := ⟨g, og + (P), none⟩) hgl).trans hpo2
                  have cen := (hbq.cell (p := ⟨be, oe + k, none⟩) hbe).trans (hce k hlt)
                  have HN : Hid _ := hnext
                  clear hpo2 hcg hce rE rG hnext
                  go_wp2
                  go_loopw [16] (fun j w5 => ∃ t : Nat, t ≤ (fe k).size ∧ j = .int .i64 t ∧ Below w4.heap.size w4 w5) (fun j _ => (fe k).size - (intOf j).toNat)
                  case atStart => exact ⟨0, Nat.zero_le _, rfl, hbq⟩
                  case round =>
                    obtain ⟨t, ht, rfl, hbt⟩ := hrel
                    by_cases htl : t < (fe k).size
                    · have hin := HIN.out t htl
                      obtain ⟨hin1, hin2⟩ := hin
                      have cin := (hbt.cell (p := ⟨g, og + (P + 1 + t), none⟩) hgl).trans hin2
                      clear hin2 cpo cen hpc2
                      go_wp2
                      go_quiet (fail)
                      go_wp2
                      go_roundw
                      case rel => exact ⟨t + 1, by omega, by go_num, below_drewN hbt _⟩
                      case measure => simp [intOf]; omega
                    · have cpc := (hbt.cell (p := ⟨g, og + (P + 1 + (fe k).size), none⟩) hgl).trans hpc2
                      clear cpo cen hpc2
                      go_wp2
                      go_roundw
                      case rel => exact ⟨k + 1, by omega, by go_num, by rw [HN.out]; go_num, hbt⟩
                      case measure => simp [intOf]; omega
              · have hkn : ne = k := by omega
                subst hkn
                by_cases hz : 0 < ne
                · first
                    | (exfalso; omega)
                    | (obtain ⟨be, oe, rfl, hbe, hce⟩ := rE hz
                       have cel := (hbq.cell (p := ⟨be, oe + (ne - 1), none⟩) hbe).trans (hce (ne - 1) (by omega))
                       have HL : Hid (lastOf last fe ne = fe (ne - 1)) := if_neg (by omega)
                       clear hce rE rG
                       go_wp2
                       go_ret
                       exact ⟨ret_true (by rw [HL.out]; simp), HB.out.trans (hbq.mono HB.out.size)⟩)
                · first
                    | (exfalso; omega)
                    | (have HL : Hid (lastOf last fe ne = last) := if_pos (by omega)
                       clear rE rG
                       go_wp2
                       go_ret
                       exact ⟨ret_true (by rw [HL.out]; simp), HB.out.trans (hbq.mono HB.out.size)⟩)

set_option maxRecDepth 100000 in
set_option maxHeartbeats 800000 in
theorem layout_any (a0 : Option Addr) (len0 cap0 : Nat) (fb : Nat → UInt8) (last : ByteArray) (ae : Option Addr) (ne ce : Nat) (fe : Nat → ByteArray) (w : World)
    (h0 : len0 ≤ maxLen) (h1 : last.size ≤ maxLen) (h2 : ne ≤ maxLen) (h3 : ∀ i, (fe i).size ≤ maxLen) (hrb : RowAt w.heap.size w a0 len0 fun i => bcell (fb i)) (hre : RowAt w.heap.size w ae ne fun i => Value.string (fe i)) :
    Calls Try.prog 5 #[.slice a0 len0 cap0, .string last, .slice ae ne ce] w fun e w' => e = .returned (.bool true) ∧ Below w.heap.size w w' := by
  by_cases hg : len0 + last.size + ne + tot fe ne ≤ 1048576
  · by_cases hne : ne ≤ 65536
    · by_cases hsum : len0 + last.size + (16 * ne + tot fe ne) ≤ 1048576
      · exact layout_in a0 len0 cap0 fb last ae ne ce fe w h0 h1 h2 h3 hrb hre hg hne hsum
      · have H3 : Hid (∀ i, (fe i).size ≤ maxLen) := h3
        clear h3
        go_enter Try.func5, Try.ntmps5
        go_wp2_with (first | (go_at_call 12; refine (guard12_yes a0 len0 cap0 last ae ne ce fe _ _ h0 h1 h2 H3.out hre hg).mono ?_; rintro e w' ⟨rfl, hw⟩; subst w') | (go_at_call 13; refine (stringsBytes_any ae ne ce fe _ _ (by omega) (by omega) hre).mono ?_; rintro e w' ⟨rfl, hw⟩; subst w'))
        go_ret
        exact ⟨rfl, Below.refl _ _⟩
    · have H3 : Hid (∀ i, (fe i).size ≤ maxLen) := h3
      clear h3
      go_enter Try.func5, Try.ntmps5
      go_wp2_with (first | (go_at_call 12; refine (guard12_yes a0 len0 cap0 last ae ne ce fe _ _ h0 h1 h2 H3.out hre hg).mono ?_; rintro e w' ⟨rfl, hw⟩; subst w'))
      go_ret
      exact ⟨rfl, Below.refl _ _⟩
  · have H3 : Hid (∀ i, (fe i).size ≤ maxLen) := h3
    clear h3
    go_enter Try.func5, Try.ntmps5
    go_wp2_with (first | (go_at_call 12; refine (guard12_no a0 len0 cap0 last ae ne ce fe _ _ h0 h1 h2 H3.out hre hg).mono ?_; rintro e w' ⟨rfl, hw⟩; subst w'))
    go_ret
    exact ⟨rfl, Below.refl _ _⟩

end Go.Proofs.Qxb6603940a
