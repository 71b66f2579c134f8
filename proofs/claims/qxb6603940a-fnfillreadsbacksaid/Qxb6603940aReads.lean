/-
  THE WALK of 'FnFillReadsBack'.
-/
import Derived.Test.Qxb6603940aQuote
namespace Go.Proofs.Qxb6603940a
open Go.RowKit

set_option maxRecDepth 100000 in
set_option maxHeartbeats 3200000 in
theorem reads_in (a0 : Option Addr) (len0 cap0 : Nat) (fb : Nat → UInt8) (last : ByteArray) (ae : Option Addr) (ne ce : Nat) (fe : Nat → ByteArray) (w : World)
    (h0 : len0 ≤ maxLen) (h1 : last.size ≤ maxLen) (h2 : ne ≤ maxLen) (h3 : ∀ i, (fe i).size ≤ maxLen) (hrb : RowAt w.heap.size w a0 len0 fun i => bcell (fb i)) (hre : RowAt w.heap.size w ae ne fun i => Value.string (fe i))
    (hg : len0 + last.size + ne + tot fe ne ≤ 1048576) (hne : ne ≤ 65536) (hsum : len0 + last.size + (16 * ne + tot fe ne) ≤ 1048576) :
    Calls Try.prog 7 #[.slice a0 len0 cap0, .string last, .slice ae ne ce] w fun e w' => e = .returned (.bool true) ∧ Below w.heap.size w w' := by
  have H3 : Hid (∀ i, (fe i).size ≤ maxLen) := h3
  clear h3
  go_enter Try.func7, Try.ntmps7
  go_wp2_with (first | (go_at_call 19; refine (guard19_yes a0 len0 cap0 last ae ne ce fe _ _ h0 h1 h2 H3.out hre hg).mono ?_; rintro e w' ⟨rfl, hw⟩; subst w') | (go_at_call 13; refine (stringsBytes_any ae ne ce fe _ _ (by omega) (by omega) hre).mono ?_; rintro e w' ⟨rfl, hw⟩; subst w'))
  go_loop [7] (fun i => ∃ k : Nat, k ≤ ne ∧ i = .int .i64 k ∧ ∀ j, j < k → noQ (fe j)) (fun i => ne - (intOf i).toNat)
  case atStart => exact ⟨0, Nat.zero_le _, rfl, fun j h => absurd h (by omega)⟩
  case round =>
    obtain ⟨k, hk, rfl, hall⟩ := hrel
    have HA : Hid (∀ j, j < k → noQ (fe j)) := hall
    clear hall
    by_cases hlt : k < ne
    · obtain ⟨be, oe, rfl, hbe, hce⟩ := hre (by omega)
      have cek := hce k hlt
      have hsk := size_le_tot fe hlt
      clear hce hre hrb
      by_cases hq : noQ (fe k)
      · have HQK : Hid (noQ (fe k)) := hq
        clear hq
        go_wp2_with (go_at_call 10; refine (hasQuote_no (fe k) _ (by omega) HQK.out).mono ?_; rintro e w' ⟨rfl, hw⟩; subst w')
        go_round
        case rel =>
          refine ⟨k + 1, by omega, by go_num, fun j hj => ?_⟩
          by_cases e : j = k
          · subst e; exact HQK.out
          · exact HA.out j (by omega)
        case measure => simp [intOf]; omega
      · have HQK : Hid (¬ noQ (fe k)) := hq
        clear hq
        go_wp2_with (go_at_call 10; refine (hasQuote_yes (fe k) _ (by omega) HQK.out).mono ?_; rintro e w' ⟨rfl, hw⟩; subst w')
        go_ret
        exact ⟨rfl, Below.refl _ _⟩
    · have hkn0 : ne = k := by omega
      subst hkn0
      have HQ : Hid (∀ j, j < ne → noQ (fe j)) := HA.out
      have HMB : Hid (len0 ≤ (layK (bytesOf fb len0) fe ne).length) := by have := layK_length (bytesOf fb len0) fe ne; rw [bytesOf_length] at this; show len0 ≤ _; omega
      clear HA hlt hk
      go_wp2_with (first | (go_at_call 14; refine (cloneBytes_any a0 len0 cap0 fb _ (by omega) hrb).mono ?_; rintro e w1 ⟨v1, rfl, hown1, hbel1⟩; obtain ⟨ao1, cap1, rfl, hr1, _⟩ := row_of_owns hown1 _ (fun i hi => rowOf_at _ _ i hi); have hre1 := (hre.below hbel1).mono hbel1.size; clear hown1 hrb hre) | (go_at_call 15; refine (cloneStrings_any ae ne ce fe _ (by omega) hre1).mono ?_; rintro e w2 ⟨v2, rfl, hown2, hbel2⟩; obtain ⟨ae2, cap2, rfl, hr2, _⟩ := row_of_owns hown2 _ (fun i hi => rowOf_at _ _ i hi); have hrb2 := (hr1.below hbel2).mono hbel2.size; clear hown2 hr1 hre1) | (go_at_call 14; refine (cloneBytes_any ao1 len0 cap1 fb _ (by omega) hrb2).mono ?_; rintro e w3 ⟨v3, rfl, hown3, hbel3⟩; have hre3 := hr2.below hbel3; have hsz3 := hbel3.size) | (go_at_call 16; refine (zzfill_any _ last (bytesOf fb len0) ae2 ne cap2 fe w2.heap.size _ (clone_owned hown3) hsz3 hre3 (by rw [bytesOf_length]; omega)).mono ?_; rintro e w4 ⟨v4, rfl, hown4, hbel4⟩; obtain ⟨ao4, cap4, rfl, hr4, hcap4⟩ := got_row hown4; have hmb := HMB.out))
      have HB : Hid (Below w.heap.size w w4) := ((hbel1.trans (hbel2.mono hbel1.size)).trans (hbel3.mono (Nat.le_trans hbel1.size hbel2.size))).trans (hbel4.mono (Nat.le_trans hbel1.size hbel2.size))
      have hs4 : w2.heap.size ≤ w4.heap.size := Nat.le_trans hsz3 hbel4.size
      have rB := ((hrb2.below hbel3).below hbel4).mono hs4
      have rE := (hre3.below hbel4).mono hs4
      have HML := layK_length (bytesOf fb len0) fe ne
      rw [bytesOf_length] at HML
      obtain ⟨bs, hbs⟩ : ∃ bs, bs = bytesOf fb len0 := ⟨_, rfl⟩
      have HBS : Hid (bs = bytesOf fb len0) := hbs
      rw [← hbs] at HML hr4 hcap4 hmb ⊢
      clear hbs hown4 hbel1 hbel2 hbel3 hbel4 hrb2 hr2 hre3 hown3 hsz3 hs4 H3 HMB
      generalize hM : (layK bs fe ne).length = M at hr4 HML hcap4 hmb ⊢
      have HM : Hid ((layK bs fe ne).length = M) := hM
      have hM1 : M ≤ len0 + tot fe ne + 2 * ne + (ne - 1) := by omega
      have rG := hr4
      clear hM HML hr4
      go_loopw [10] (fun i wr => ∃ k : Nat, k ≤ len0 ∧ i = .int .i64 k ∧ Below w4.heap.size w4 wr) (fun i _ => len0 - (intOf i).toNat)
      case atStart => exact ⟨0, Nat.zero_le _, rfl, Below.refl _ _⟩
      case round =>
        obtain ⟨k, hk, rfl, hbq⟩ := hrel
        by_cases hlt : k < len0
        · obtain ⟨bb, ob, rfl, hbb, hcb⟩ := rB (by omega)
          obtain ⟨g, og, rfl, hgl, hcg⟩ := rG (by omega)
          have cb := (hbq.cell (p := ⟨bb, ob + k, none⟩) hbb).trans (hcb k hlt)
          have hgk := got_cell hcg HM.out (show (layK bs fe ne)[k]? = some (fb k) by rw [HBS.out, layK_body _ _ (by rw [bytesOf_length]; exact hlt), bytesOf_at _ hlt])
          have cg := (hbq.cell (p := ⟨g, og + k, none⟩) hgl).trans hgk.2
          have hkM := hgk.1
          unfold bcell at cb
          clear hcb hcg hgk rB rE rG
          go_wp2
          go_quiet (fail)
          go_wp2
          go_roundw
          case rel => exact ⟨k + 1, by omega, by go_num, below_drewN hbq _⟩
          case measure => simp [intOf]; omega
        · go_wp2
          go_loopw [11, 12] (fun pos i wq => ∃ k : Nat, k ≤ ne ∧ i = .int .i64 k ∧ pos = .int .i64 (((layK bs fe k).length : Nat) : Int) ∧ Below w4.heap.size w4 wq) (fun _ i _ => ne - (intOf i).toNat)
          case atStart => exact ⟨0, Nat.zero_le _, rfl, by rw [HBS.out]; simp [layK, bytesOf_length], hbq⟩
          case round =>
            clear hbq hlt hk rB
            obtain ⟨k, hk, rfl, rfl, hbq⟩ := hrel
            by_cases hlt : k < ne
            · obtain ⟨g, og, rfl, hgl, hcg⟩ := rG (by have := layK_length bs fe ne; rw [HM.out] at this; omega)
              obtain ⟨be, oe, rfl, hbe, hce⟩ := rE (by omega)
              have HNX : Hid (_) := qpos_next bs fe k
              generalize hP : (layK bs fe k).length = P
              by_cases h0k : 0 < k
              · have hqp : qpos bs fe k = P + 1 := by rw [qpos, hP, if_neg (by omega)]
                have hnext : (layK bs fe (k + 1)).length = P + 1 + 1 + (fe k).size + 1 := by rw [HNX.out, hqp]
                have hcm := got_cell hcg HM.out (hP ▸ layK_comma bs fe hlt (by omega))
                obtain ⟨hcm1, hcm2⟩ := hcm
                have ccm := (hbq.cell (p := ⟨g, og + P, none⟩) hgl).trans hcm2
                clear hcm2 hP HNX

                have hpo := got_cell hcg HM.out (layK_open bs fe hlt)
                have hpc := got_cell hcg HM.out (layK_close bs fe hlt)
                have HIN : Hid (∀ t, (ht : t < (fe k).size) → P + 1 + 1 + t < M ∧ w4.cell? ⟨g, og + (P + 1 + 1 + t), none⟩ = some (.int .u8 ((fe k)[t].toNat : Int))) := fun t ht => by
                  have := got_cell hcg HM.out (layK_entry bs fe hlt ht)
                  rw [hqp] at this
                  exact this
                rw [hqp] at hpo hpc
                obtain ⟨hpo1, hpo2⟩ := hpo
                obtain ⟨hpc1, hpc2⟩ := hpc
                have cpo := (hbq.cell (p := ⟨g, og + (P + 1), none⟩) hgl).trans hpo2
                have cpc := (hbq.cell (p := ⟨g, og + (P + 1 + 1 + (fe k).size), none⟩) hgl).trans hpc2
                have cen := (hbq.cell (p := ⟨be, oe + k, none⟩) hbe).trans (hce k hlt)
                have HCV : Hid (∀ n, (convert 26 9 (.slice (some ⟨g, og + (P + 1 + 1), none⟩) (fe k).size (cap4 - (P + 1 + 1)))).run Try.prog (wr.drewN n) = .ok (.string (fe k)) (wr.drewN n)) := fun n => conv_back (wr.drewN n) g (og + (P + 1 + 1)) _ (fe k) (fun t ht => by
                  have h1 := (HIN.out t ht).2
                  rw [World.cell?_drewN, Nat.add_assoc]
                  exact (hbq.cell (p := ⟨g, og + (P + 1 + 1 + t), none⟩) hgl).trans h1)
                have HN : Hid (_) := hnext
                have HQK : Hid (noQ (fe k)) := HQ.out k hlt
                clear hpo2 hpc2 hcg hce rE rG hnext
                go_wp2
                go_loop [11] (fun pos => ∃ t : Nat, t ≤ (fe k).size ∧ pos = .int .i64 ((P + 1 + 1 + t : Nat) : Int)) (fun pos => P + 1 + 1 + (fe k).size - (intOf pos).toNat)
                case atStart => exact ⟨0, Nat.zero_le _, by go_num⟩
                case round =>
                  obtain ⟨t, ht, rfl⟩ := hrel
                  by_cases htl : t < (fe k).size
                  · have hin := HIN.out t htl
                    obtain ⟨hin1, hin2⟩ := hin
                    have cin := (hbq.cell (p := ⟨g, og + (P + 1 + 1 + t), none⟩) hgl).trans hin2
                    have hnq := HQK.out t htl
                    have hnq' : (((fe k)[t].toNat : Int) != 34) = true := by simp only [bne, hnq, Bool.not_false]
                    clear hin2 cpo cpc cen
                    go_wp2
                    go_round
                    case rel => exact ⟨t + 1, by omega, by go_num⟩
                    case measure => simp [intOf]; omega
                  · have hte : (fe k).size = t := by omega
                    subst hte
                    clear cpo
                    have hcv := HCV.out
                    go_wp2
                    go_quiet (fail)
                    go_wp2
                    go_roundw
                    case rel => exact ⟨k + 1, by omega, by go_num, by rw [HN.out]; go_num, below_drewN hbq _⟩
                    case measure => simp [intOf]; omega
              · have hqp : qpos bs fe k = P := by rw [qpos, hP, if_pos (by omega), Nat.add_zero]
                have hnext : (layK bs fe (k + 1)).length = P + 1 + (fe k).size + 1 := by rw [HNX.out, hqp]
                clear hP HNX

                have hpo := got_cell hcg HM.out (layK_open bs fe hlt)
                have hpc := got_cell hcg HM.out (layK_close bs fe hlt)
                have HIN : Hid (∀ t, (ht : t < (fe k).size) → P + 1 + t < M ∧ w4.cell? ⟨g, og + (P + 1 + t), none⟩ = some (.int .u8 ((fe k)[t].toNat : Int))) := fun t ht => by
                  have := got_cell hcg HM.out (layK_entry bs fe hlt ht)
                  rw [hqp] at this
                  exact this
                rw [hqp] at hpo hpc
                obtain ⟨hpo1, hpo2⟩ := hpo
                obtain ⟨hpc1, hpc2⟩ := hpc
                have cpo := (hbq.cell (p := ⟨g, og + (P), none⟩) hgl).trans hpo2
                have cpc := (hbq.cell (p := ⟨g, og + (P + 1 + (fe k).size), none⟩) hgl).trans hpc2
                have cen := (hbq.cell (p := ⟨be, oe + k, none⟩) hbe).trans (hce k hlt)
                have HCV : Hid (∀ n, (convert 26 9 (.slice (some ⟨g, og + (P + 1), none⟩) (fe k).size (cap4 - (P + 1)))).run Try.prog (wr.drewN n) = .ok (.string (fe k)) (wr.drewN n)) := fun n => conv_back (wr.drewN n) g (og + (P + 1)) _ (fe k) (fun t ht => by
                  have h1 := (HIN.out t ht).2
                  rw [World.cell?_drewN, Nat.add_assoc]
                  exact (hbq.cell (p := ⟨g, og + (P + 1 + t), none⟩) hgl).trans h1)
                have HN : Hid (_) := hnext
                have HQK : Hid (noQ (fe k)) := HQ.out k hlt
                clear hpo2 hpc2 hcg hce rE rG hnext
                go_wp2
                go_loop [11] (fun pos => ∃ t : Nat, t ≤ (fe k).size ∧ pos = .int .i64 ((P + 1 + t : Nat) : Int)) (fun pos => P + 1 + (fe k).size - (intOf pos).toNat)
                case atStart => exact ⟨0, Nat.zero_le _, by go_num⟩
                case round =>
                  obtain ⟨t, ht, rfl⟩ := hrel
                  by_cases htl : t < (fe k).size
                  · have hin := HIN.out t htl
                    obtain ⟨hin1, hin2⟩ := hin
                    have cin := (hbq.cell (p := ⟨g, og + (P + 1 + t), none⟩) hgl).trans hin2
                    have hnq := HQK.out t htl
                    have hnq' : (((fe k)[t].toNat : Int) != 34) = true := by simp only [bne, hnq, Bool.not_false]
                    clear hin2 cpo cpc cen
                    go_wp2
                    go_round
                    case rel => exact ⟨t + 1, by omega, by go_num⟩
                    case measure => simp [intOf]; omega
                  · have hte : (fe k).size = t := by omega
                    subst hte
                    clear cpo
                    have hcv := HCV.out
                    go_wp2
                    go_quiet (fail)
                    go_wp2
                    go_roundw
                    case rel => exact ⟨k + 1, by omega, by go_num, by rw [HN.out]; go_num, below_drewN hbq _⟩
                    case measure => simp [intOf]; omega
            · have hkn : ne = k := by omega
              subst hkn
              rw [HM.out]
              by_cases hz : 0 < ne
              · obtain ⟨be, oe, rfl, hbe, hce⟩ := rE hz
                have cel := (hbq.cell (p := ⟨be, oe + (ne - 1), none⟩) hbe).trans (hce (ne - 1) (by omega))
                have HL : Hid (lastOf last fe ne = fe (ne - 1)) := if_neg (by omega)
                have hnz : ((ne : Int) == 0) = false := by simp; omega
                clear hce rE rG
                go_wp2
                go_ret
                exact ⟨ret_true (by rw [HL.out]; simp), HB.out.trans (hbq.mono HB.out.size)⟩
              · have HL : Hid (lastOf last fe ne = last) := if_pos (by omega)
                have hnz : ((ne : Int) == 0) = true := by simp; omega
                clear rE rG
                go_wp2
                go_ret
                exact ⟨ret_true (by rw [HL.out]; simp), HB.out.trans (hbq.mono HB.out.size)⟩

set_option maxRecDepth 100000 in
set_option maxHeartbeats 800000 in
theorem reads_any (a0 : Option Addr) (len0 cap0 : Nat) (fb : Nat → UInt8) (last : ByteArray) (ae : Option Addr) (ne ce : Nat) (fe : Nat → ByteArray) (w : World)
    (h0 : len0 ≤ maxLen) (h1 : last.size ≤ maxLen) (h2 : ne ≤ maxLen) (h3 : ∀ i, (fe i).size ≤ maxLen) (hrb : RowAt w.heap.size w a0 len0 fun i => bcell (fb i)) (hre : RowAt w.heap.size w ae ne fun i => Value.string (fe i)) :
    Calls Try.prog 7 #[.slice a0 len0 cap0, .string last, .slice ae ne ce] w fun e w' => e = .returned (.bool true) ∧ Below w.heap.size w w' := by
  by_cases hg : len0 + last.size + ne + tot fe ne ≤ 1048576
  · by_cases hne : ne ≤ 65536
    · by_cases hsum : len0 + last.size + (16 * ne + tot fe ne) ≤ 1048576
      · exact reads_in a0 len0 cap0 fb last ae ne ce fe w h0 h1 h2 h3 hrb hre hg hne hsum
      · have H3 : Hid (∀ i, (fe i).size ≤ maxLen) := h3
        clear h3
        go_enter Try.func7, Try.ntmps7
        go_wp2_with (first | (go_at_call 19; refine (guard19_yes a0 len0 cap0 last ae ne ce fe _ _ h0 h1 h2 H3.out hre hg).mono ?_; rintro e w' ⟨rfl, hw⟩; subst w') | (go_at_call 13; refine (stringsBytes_any ae ne ce fe _ _ (by omega) (by omega) hre).mono ?_; rintro e w' ⟨rfl, hw⟩; subst w'))
        go_ret
        exact ⟨rfl, Below.refl _ _⟩
    · have H3 : Hid (∀ i, (fe i).size ≤ maxLen) := h3
      clear h3
      go_enter Try.func7, Try.ntmps7
      go_wp2_with (first | (go_at_call 19; refine (guard19_yes a0 len0 cap0 last ae ne ce fe _ _ h0 h1 h2 H3.out hre hg).mono ?_; rintro e w' ⟨rfl, hw⟩; subst w'))
      go_ret
      exact ⟨rfl, Below.refl _ _⟩
  · have H3 : Hid (∀ i, (fe i).size ≤ maxLen) := h3
    clear h3
    go_enter Try.func7, Try.ntmps7
    go_wp2_with (first | (go_at_call 19; refine (guard19_no a0 len0 cap0 last ae ne ce fe _ _ h0 h1 h2 H3.out hre hg).mono ?_; rintro e w' ⟨rfl, hw⟩; subst w'))
    go_ret
    exact ⟨rfl, Below.refl _ _⟩

end Go.Proofs.Qxb6603940a
