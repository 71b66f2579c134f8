/-
  THE CONTRACTS of 'nameModel', 'validName', 'ZZvalidName'.
-/
import Derived.Test.Qxb6604221aByte
import Derived.Lib.ConvBytes
namespace Go.Proofs.Qxb6604221a
open Go.RowKit

/-- Every byte is of the alphabet. -/
def allOk (s : ByteArray) : Prop := ∀ i, (h : i < s.size) → okc (s[i].toNat)

/-- Every byte from t on is. -/
def okFrom (s : ByteArray) (t : Nat) : Prop := ∀ i, (h : i < s.size) → t ≤ i → okc (s[i].toNat)

theorem okFrom_end (s : ByteArray) : okFrom s s.size := fun i h h' => absurd h' (by omega)
theorem okFrom_zero {s : ByteArray} (h : okFrom s 0) : allOk s := fun i hi => h i hi (Nat.zero_le _)
theorem okFrom_of {s : ByteArray} (h : allOk s) (t : Nat) : okFrom s t := fun i hi _ => h i hi
theorem okFrom_step {s : ByteArray} {k : Nat} (hk : k < s.size) (h : okc (s[k].toNat)) (h' : okFrom s (k + 1)) : okFrom s k := fun i hi hle => by
  by_cases e : i = k
  · subst e; exact h
  · exact h' i hi (by omega)

/-- A name: 1 to 64 bytes of the alphabet. -/
def valid (s : ByteArray) : Prop := allOk s ∧ 1 ≤ s.size ∧ s.size ≤ 64

/-- What 'bad' has counted from t on. -/
def Counted (s : ByteArray) (t b : Nat) : Prop := b + t ≤ s.size ∧ (b = 0 ↔ okFrom s t)

theorem Counted.good {s : ByteArray} {k b : Nat} (hk : k < s.size) (h : okc (s[k].toNat)) (hc : Counted s (k + 1) b) : Counted s k b :=
  ⟨by have := hc.1; omega, fun e => okFrom_step hk h (hc.2.1 e), fun f => hc.2.2 fun i hi hle => f i hi (by omega)⟩

theorem Counted.bad {s : ByteArray} {k b : Nat} (hk : k < s.size) (h : ¬ okc (s[k].toNat)) (hc : Counted s (k + 1) b) : Counted s k (b + 1) :=
  ⟨by have := hc.1; omega, fun e => absurd e (by omega), fun f => absurd (f k hk (Nat.le_refl _)) h⟩

theorem u8_lt (x : UInt8) : x.toNat < 256 := x.toNat_lt

set_option maxHeartbeats 400000 in
theorem model_any (s : ByteArray) (w : World) (hs : s.size ≤ 1048576) (v : Bool) (hv : v = true ↔ valid s) :
    Calls Try.prog 6 #[.string s] w fun e w' => e = .returned (.bool v) ∧ w' = w := by
  have HV : Hid (v = true ↔ valid s) := hv
  clear hv
  go_enter Try.func6, Try.ntmps6
  go_wp2
  go_loop [3, 4] (fun b i => ∃ t n : Nat, t ≤ s.size ∧ i = .int .i64 ((t : Int) - 1) ∧ b = .int .i64 (n : Int) ∧ Counted s t n) (fun _ i => (intOf i + 1).toNat)
  case atStart => exact ⟨s.size, 0, Nat.le_refl _, rfl, rfl, by omega, fun _ => okFrom_end s, fun _ => rfl⟩
  case round =>
    obtain ⟨t, n, hts, rfl, rfl, hcn⟩ := hrel
    have HC : Hid (Counted s t n) := hcn
    have hcs := hcn.1
    clear hcn
    by_cases hlt : 0 < t
    · obtain ⟨k, rfl⟩ : ∃ k, t = k + 1 := ⟨t - 1, by omega⟩
      by_cases hd : okc (s[k].toNat)
      · have HD : Hid (okc (s[k].toNat)) := hd
        clear hd
        go_wp2_with (go_at_call 8; refine (byte_yes _ _ (u8_lt _) HD.out).mono ?_; rintro e w' ⟨rfl, hw⟩; subst w')
        go_round
        case rel => exact ⟨k, n, by omega, rfl, rfl, HC.out.good (by omega) HD.out⟩
        case measure => simp [intOf]
      · have HD : Hid (¬ okc (s[k].toNat)) := hd
        clear hd
        go_wp2_with (go_at_call 8; refine (byte_no _ _ (u8_lt _) HD.out).mono ?_; rintro e w' ⟨rfl, hw⟩; subst w')
        go_round
        case rel => exact ⟨k, n + 1, by omega, rfl, by go_num, HC.out.bad (by omega) HD.out⟩
        case measure => simp [intOf]
    · have et : t = 0 := by omega
      subst et
      by_cases hn : n = 0
      · have hA := okFrom_zero (HC.out.2.1 hn)
        have HVV : Hid (v = decide (1 ≤ s.size ∧ s.size ≤ 64)) := by
          show v = _
          rw [Bool.eq_iff_iff, HV.out]
          simp [valid, hA]
        subst hn
        clear HV hA
        go_wp2
        · have h1 : 1 ≤ (s.size : Int) := by assumption
          go_ret
          exact ⟨ret_bool (by rw [HVV.out, decide_eq_decide]; omega), rfl⟩
        · have h1 : (s.size : Int) < 1 := by assumption
          go_ret
          exact ⟨ret_bool (by rw [HVV.out, eq_comm, decide_eq_false_iff_not]; omega), rfl⟩
      · have hf : v = false := by
          cases hb : v with
          | false => rfl
          | true => exact absurd (HC.out.2.2 (okFrom_of (HV.out.1 hb).1 0)) hn
        have hnz : ((n : Int) == 0) = false := by simp; omega
        subst hf
        go_wp2
        go_ret
        exact ⟨rfl, rfl⟩

theorem bytesWorld_below (w : World) (s : ByteArray) : Below w.heap.size w (Lib.bytesWorld w 5 s) :=
  ⟨by simp [Lib.bytesWorld, World.freeze]; rfl, by simp [Lib.bytesWorld, World.freeze], by simp [Lib.bytesWorld, World.freeze]; rfl, by rw [Lib.bytesWorld_size]; omega, fun k hk => Lib.bytesWorld_at_old w 5 s k hk⟩

theorem bytesWorld_at (w : World) (s : ByteArray) (j : Nat) (hj : j < s.size) : (Lib.bytesWorld w 5 s).cell? ⟨w.heap.size, j, none⟩ = some (.int .u8 ((s[j].toNat : Nat) : Int)) := by
  rw [Lib.bytesWorld_cell w 5 s j hj, List.getD_eq_getElem?_getD, List.getElem?_eq_getElem (by rw [Array.length_toList]; exact hj)]
  rfl

theorem okc_cases (c : Nat) (h : okc c) : (97 ≤ c ∧ c ≤ 122) ∨ (65 ≤ c ∧ c ≤ 90) ∨ (48 ≤ c ∧ c ≤ 57) ∨ (45 ≤ c ∧ c ≤ 45) ∨ (95 ≤ c ∧ c ≤ 95) := by unfold okc at h; omega
theorem nok_cases (c : Nat) (h : ¬ okc c) : c < 45 ∨ (45 < c ∧ c < 48) ∨ (57 < c ∧ c < 65) ∨ (90 < c ∧ c < 95) ∨ (95 < c ∧ c < 97) ∨ 122 < c := by unfold okc at h; omega

set_option maxHeartbeats 1600000 in
theorem valid_any (s : ByteArray) (w : World) (hs : s.size ≤ 1048576) (v : Bool) (hv : v = true ↔ valid s) :
    Calls Try.prog 7 #[.string s] w fun e w' => e = .returned (.bool v) ∧ Below w.heap.size w w' := by
  by_cases h1 : s.size < 1
  · have hf : v = false := by cases hb : v with
      | false => rfl
      | true => exact absurd (hv.1 hb).2.1 (by omega)
    subst hf
    clear hv
    go_enter Try.func7, Try.ntmps7
    go_wp2
    go_ret
    exact ⟨rfl, Below.refl _ _⟩
  · by_cases h2 : 64 < s.size
    · have hf : v = false := by cases hb : v with
        | false => rfl
        | true => exact absurd (hv.1 hb).2.2 (by omega)
      subst hf
      clear hv
      have h3 : 1 ≤ s.size := by omega
      go_enter Try.func7, Try.ntmps7
      go_wp2
      go_ret
      exact ⟨rfl, Below.refl _ _⟩
    · have h3 : 1 ≤ s.size := by omega
      have hcv : ∀ w, (convert 9 24 (.string s)).run Try.prog w = .ok (.slice (some ⟨w.heap.size, 0, none⟩) s.size (grownCap w s.size 0 5)) (Lib.bytesWorld w 5 s) := fun w => Lib.run_convert_string_bytes w 9 24 5 s Try.underlying9 Try.underlying24 Try.underlying5
      have HV : Hid (v = true ↔ valid s) := hv
      have HB : Hid (Below w.heap.size w (Lib.bytesWorld w 5 s)) := bytesWorld_below w s
      clear hv
      go_enter Try.func7, Try.ntmps7
      go_wp2
      have HW : Hid (∀ j, (h : j < s.size) → (Lib.bytesWorld w 5 s).cell? ⟨w.heap.size, j, none⟩ = some (.int .u8 ((s[j].toNat : Nat) : Int))) := fun j h => bytesWorld_at w s j h
      clear hcv
      generalize Lib.bytesWorld w 5 s = W1 at HB HW ⊢
      generalize grownCap w s.size 0 5 = cap
      go_loop [17] (fun i => ∃ k : Nat, k ≤ s.size ∧ i = .int .i64 k ∧ ∀ j, (h : j < s.size) → j < k → okc (s[j].toNat)) (fun i => s.size - (intOf i).toNat)
      case atStart => exact ⟨0, Nat.zero_le _, rfl, fun j _ h => absurd h (by omega)⟩
      case round =>
        obtain ⟨k, hk, rfl, hall⟩ := hrel
        have HA : Hid (∀ j, (h : j < s.size) → j < k → okc (s[j].toNat)) := hall
        clear hall
        by_cases hlt : k < s.size
        · have hcell := HW.out k hlt
          obtain ⟨c, hc⟩ : ∃ c, c = s[k].toNat := ⟨_, rfl⟩
          rw [← hc] at hcell
          have HCC : Hid (c = s[k].toNat) := hc
          clear hc
          by_cases hd : okc c
          · have HN : Hid (∀ j, (h : j < s.size) → j < k + 1 → okc (s[j].toNat)) := fun j h hj => by
              by_cases e : j = k
              · subst e; rw [← HCC.out]; exact hd
              · exact HA.out j h (by omega)
            rcases okc_cases c hd with ⟨c1, c2⟩ | ⟨c1, c2⟩ | ⟨c1, c2⟩ | ⟨c1, c2⟩ | ⟨c1, c2⟩
            · clear hd
              have d97 : decide ((97 : Int) ≤ (c : Int)) = true := decide_eq_true (by omega)
              have d122 : decide ((c : Int) ≤ 122) = true := decide_eq_true (by omega)
              have d65 : decide ((65 : Int) ≤ (c : Int)) = true := decide_eq_true (by omega)
              have d90 : decide ((c : Int) ≤ 90) = false := decide_eq_false (by omega)
              have d48 : decide ((48 : Int) ≤ (c : Int)) = true := decide_eq_true (by omega)
              have d57 : decide ((c : Int) ≤ 57) = false := decide_eq_false (by omega)
              have n45 : ((c : Int) != 45) = true := bne_iff_ne.2 (by omega)
              have n95 : ((c : Int) != 95) = true := bne_iff_ne.2 (by omega)
              go_wp2
              go_round
              case rel => exact ⟨k + 1, by omega, by go_num, HN.out⟩
              case measure => simp [intOf]; omega
            · clear hd
              have d97 : decide ((97 : Int) ≤ (c : Int)) = false := decide_eq_false (by omega)
              have d122 : decide ((c : Int) ≤ 122) = true := decide_eq_true (by omega)
              have d65 : decide ((65 : Int) ≤ (c : Int)) = true := decide_eq_true (by omega)
              have d90 : decide ((c : Int) ≤ 90) = true := decide_eq_true (by omega)
              have d48 : decide ((48 : Int) ≤ (c : Int)) = true := decide_eq_true (by omega)
              have d57 : decide ((c : Int) ≤ 57) = false := decide_eq_false (by omega)
              have n45 : ((c : Int) != 45) = true := bne_iff_ne.2 (by omega)
              have n95 : ((c : Int) != 95) = true := bne_iff_ne.2 (by omega)
              go_wp2
              go_round
              case rel => exact ⟨k + 1, by omega, by go_num, HN.out⟩
              case measure => simp [intOf]; omega
            · clear hd
              have d97 : decide ((97 : Int) ≤ (c : Int)) = false := decide_eq_false (by omega)
              have d122 : decide ((c : Int) ≤ 122) = true := decide_eq_true (by omega)
              have d65 : decide ((65 : Int) ≤ (c : Int)) = false := decide_eq_false (by omega)
              have d90 : decide ((c : Int) ≤ 90) = true := decide_eq_true (by omega)
              have d48 : decide ((48 : Int) ≤ (c : Int)) = true := decide_eq_true (by omega)
              have d57 : decide ((c : Int) ≤ 57) = true := decide_eq_true (by omega)
              have n45 : ((c : Int) != 45) = true := bne_iff_ne.2 (by omega)
              have n95 : ((c : Int) != 95) = true := bne_iff_ne.2 (by omega)
              go_wp2
              go_round
              case rel => exact ⟨k + 1, by omega, by go_num, HN.out⟩
              case measure => simp [intOf]; omega
            · clear hd
              have d97 : decide ((97 : Int) ≤ (c : Int)) = false := decide_eq_false (by omega)
              have d122 : decide ((c : Int) ≤ 122) = true := decide_eq_true (by omega)
              have d65 : decide ((65 : Int) ≤ (c : Int)) = false := decide_eq_false (by omega)
              have d90 : decide ((c : Int) ≤ 90) = true := decide_eq_true (by omega)
              have d48 : decide ((48 : Int) ≤ (c : Int)) = false := decide_eq_false (by omega)
              have d57 : decide ((c : Int) ≤ 57) = true := decide_eq_true (by omega)
              have n45 : ((c : Int) != 45) = false := by rw [show (c : Int) = 45 by omega]; rfl
              have n95 : ((c : Int) != 95) = true := bne_iff_ne.2 (by omega)
              go_wp2
              go_round
              case rel => exact ⟨k + 1, by omega, by go_num, HN.out⟩
              case measure => simp [intOf]; omega
            · clear hd
              have d97 : decide ((97 : Int) ≤ (c : Int)) = false := decide_eq_false (by omega)
              have d122 : decide ((c : Int) ≤ 122) = true := decide_eq_true (by omega)
              have d65 : decide ((65 : Int) ≤ (c : Int)) = true := decide_eq_true (by omega)
              have d90 : decide ((c : Int) ≤ 90) = false := decide_eq_false (by omega)
              have d48 : decide ((48 : Int) ≤ (c : Int)) = true := decide_eq_true (by omega)
              have d57 : decide ((c : Int) ≤ 57) = false := decide_eq_false (by omega)
              have n45 : ((c : Int) != 45) = true := bne_iff_ne.2 (by omega)
              have n95 : ((c : Int) != 95) = false := by rw [show (c : Int) = 95 by omega]; rfl
              go_wp2
              go_round
              case rel => exact ⟨k + 1, by omega, by go_num, HN.out⟩
              case measure => simp [intOf]; omega
          · have hf : v = false := by cases hb : v with
              | false => rfl
              | true => exact absurd ((HV.out.1 hb).1 k hlt) (by rw [← HCC.out]; exact hd)
            subst hf
            rcases nok_cases c hd with c1 | ⟨c1, c2⟩ | ⟨c1, c2⟩ | ⟨c1, c2⟩ | ⟨c1, c2⟩ | c1
            · clear hd
              have d97 : decide ((97 : Int) ≤ (c : Int)) = false := decide_eq_false (by omega)
              have d122 : decide ((c : Int) ≤ 122) = true := decide_eq_true (by omega)
              have d65 : decide ((65 : Int) ≤ (c : Int)) = false := decide_eq_false (by omega)
              have d90 : decide ((c : Int) ≤ 90) = true := decide_eq_true (by omega)
              have d48 : decide ((48 : Int) ≤ (c : Int)) = false := decide_eq_false (by omega)
              have d57 : decide ((c : Int) ≤ 57) = true := decide_eq_true (by omega)
              have n45 : ((c : Int) != 45) = true := bne_iff_ne.2 (by omega)
              have n95 : ((c : Int) != 95) = true := bne_iff_ne.2 (by omega)
              go_wp2
              go_ret
              exact ⟨rfl, HB.out⟩
            · clear hd
              have d97 : decide ((97 : Int) ≤ (c : Int)) = false := decide_eq_false (by omega)
              have d122 : decide ((c : Int) ≤ 122) = true := decide_eq_true (by omega)
              have d65 : decide ((65 : Int) ≤ (c : Int)) = false := decide_eq_false (by omega)
              have d90 : decide ((c : Int) ≤ 90) = true := decide_eq_true (by omega)
              have d48 : decide ((48 : Int) ≤ (c : Int)) = false := decide_eq_false (by omega)
              have d57 : decide ((c : Int) ≤ 57) = true := decide_eq_true (by omega)
              have n45 : ((c : Int) != 45) = true := bne_iff_ne.2 (by omega)
              have n95 : ((c : Int) != 95) = true := bne_iff_ne.2 (by omega)
              go_wp2
              go_ret
              exact ⟨rfl, HB.out⟩
            · clear hd
              have d97 : decide ((97 : Int) ≤ (c : Int)) = false := decide_eq_false (by omega)
              have d122 : decide ((c : Int) ≤ 122) = true := decide_eq_true (by omega)
              have d65 : decide ((65 : Int) ≤ (c : Int)) = false := decide_eq_false (by omega)
              have d90 : decide ((c : Int) ≤ 90) = true := decide_eq_true (by omega)
              have d48 : decide ((48 : Int) ≤ (c : Int)) = true := decide_eq_true (by omega)
              have d57 : decide ((c : Int) ≤ 57) = false := decide_eq_false (by omega)
              have n45 : ((c : Int) != 45) = true := bne_iff_ne.2 (by omega)
              have n95 : ((c : Int) != 95) = true := bne_iff_ne.2 (by omega)
              go_wp2
              go_ret
              exact ⟨rfl, HB.out⟩
            · clear hd
              have d97 : decide ((97 : Int) ≤ (c : Int)) = false := decide_eq_false (by omega)
              have d122 : decide ((c : Int) ≤ 122) = true := decide_eq_true (by omega)
              have d65 : decide ((65 : Int) ≤ (c : Int)) = true := decide_eq_true (by omega)
              have d90 : decide ((c : Int) ≤ 90) = false := decide_eq_false (by omega)
              have d48 : decide ((48 : Int) ≤ (c : Int)) = true := decide_eq_true (by omega)
              have d57 : decide ((c : Int) ≤ 57) = false := decide_eq_false (by omega)
              have n45 : ((c : Int) != 45) = true := bne_iff_ne.2 (by omega)
              have n95 : ((c : Int) != 95) = true := bne_iff_ne.2 (by omega)
              go_wp2
              go_ret
              exact ⟨rfl, HB.out⟩
            · clear hd
              have d97 : decide ((97 : Int) ≤ (c : Int)) = false := decide_eq_false (by omega)
              have d122 : decide ((c : Int) ≤ 122) = true := decide_eq_true (by omega)
              have d65 : decide ((65 : Int) ≤ (c : Int)) = true := decide_eq_true (by omega)
              have d90 : decide ((c : Int) ≤ 90) = false := decide_eq_false (by omega)
              have d48 : decide ((48 : Int) ≤ (c : Int)) = true := decide_eq_true (by omega)
              have d57 : decide ((c : Int) ≤ 57) = false := decide_eq_false (by omega)
              have n45 : ((c : Int) != 45) = true := bne_iff_ne.2 (by omega)
              have n95 : ((c : Int) != 95) = true := bne_iff_ne.2 (by omega)
              go_wp2
              go_ret
              exact ⟨rfl, HB.out⟩
            · clear hd
              have d97 : decide ((97 : Int) ≤ (c : Int)) = true := decide_eq_true (by omega)
              have d122 : decide ((c : Int) ≤ 122) = false := decide_eq_false (by omega)
              have d65 : decide ((65 : Int) ≤ (c : Int)) = true := decide_eq_true (by omega)
              have d90 : decide ((c : Int) ≤ 90) = false := decide_eq_false (by omega)
              have d48 : decide ((48 : Int) ≤ (c : Int)) = true := decide_eq_true (by omega)
              have d57 : decide ((c : Int) ≤ 57) = false := decide_eq_false (by omega)
              have n45 : ((c : Int) != 45) = true := bne_iff_ne.2 (by omega)
              have n95 : ((c : Int) != 95) = true := bne_iff_ne.2 (by omega)
              go_wp2
              go_ret
              exact ⟨rfl, HB.out⟩
        · have ht : v = true := HV.out.2 ⟨fun j h => HA.out j h (by omega), by omega, by omega⟩
          subst ht
          go_wp2
          go_ret
          exact ⟨rfl, HB.out⟩

theorem zzvalid_any (s : ByteArray) (w : World) (hs : s.size ≤ 1048576) (v : Bool) (hv : v = true ↔ valid s) :
    Calls Try.prog 5 #[.string s] w fun e w' => e = .returned (.bool v) ∧ Below w.heap.size w w' := by
  have HV : Hid (v = true ↔ valid s) := hv
  clear hv
  go_enter Try.func5, Try.ntmps5
  go_wp2_with (go_at_call 7; refine (valid_any s _ hs v HV.out).mono ?_; rintro e w1 ⟨rfl, hb⟩)
  go_ret
  exact ⟨rfl, by assumption⟩

theorem bytes_ok (s : ByteArray) (w : World) (hl : s.size ≤ 1048576) :
    Calls Try.prog 4 #[.string s] w fun e w' => e = .returned (.bool true) ∧ w' = w := by
  go_enter Try.func4, Try.ntmps4
  go_wp2
  go_ret
  exact ⟨rfl, rfl⟩

theorem bytes_no (s : ByteArray) (w : World) (hl : 1048576 < s.size) (hm : s.size ≤ maxLen) :
    Calls Try.prog 4 #[.string s] w fun e w' => e = .returned (.bool false) ∧ w' = w := by
  unfold maxLen at hm
  go_enter Try.func4, Try.ntmps4
  go_wp2
  go_ret
  exact ⟨rfl, rfl⟩

/-- THE LAW's WALK. -/
theorem walk (s : ByteArray) (hm : s.size ≤ maxLen) (w : World) :
    Calls Try.prog 3 #[.string s] w fun e w' => e = .returned (.bool true) ∧ Below w.heap.size w w' := by
  by_cases hl : s.size ≤ 1048576
  · obtain ⟨v, hv⟩ : ∃ v : Bool, v = true ↔ valid s := by
      by_cases h : valid s
      · exact ⟨true, by simp [h]⟩
      · exact ⟨false, by simp [h]⟩
    have HV : Hid (v = true ↔ valid s) := hv
    clear hv
    go_enter Try.func3, Try.ntmps3
    go_wp2_with (first | (go_at_call 4; refine (bytes_ok s _ hl).mono ?_; rintro e w' ⟨rfl, hw⟩; subst w') | (go_at_call 5; refine (zzvalid_any s _ hl v HV.out).mono ?_; rintro e w1 ⟨rfl, hb⟩) | (go_at_call 6; refine (model_any s _ hl v HV.out).mono ?_; rintro e w' ⟨rfl, hw⟩; subst w'))
    all_goals
      go_ret
      exact ⟨ret_bool (by simp), by assumption⟩
  · have hl' : 1048576 < s.size := by omega
    go_enter Try.func3, Try.ntmps3
    go_wp2_with (go_at_call 4; refine (bytes_no s _ hl' hm).mono ?_; rintro e w' ⟨rfl, hw⟩; subst w')
    go_ret
    exact ⟨rfl, Below.refl _ _⟩
end Go.Proofs.Qxb6604221a
