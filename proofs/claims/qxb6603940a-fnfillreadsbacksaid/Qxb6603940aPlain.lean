/-
  PLAIN LISTS for the seat's three laws: no Go in sight. What 'fill' writes behind a body: 'layK bs fe k': the body bs, then the first k entries, each in double quotes, commas between.
-/
namespace Go.Proofs.Qxb6603940a

/-- An entry's bytes. -/
def ebytes (s : ByteArray) : List UInt8 := s.data.toList

theorem ebytes_length (s : ByteArray) : (ebytes s).length = s.size := by
  rw [ebytes, Array.length_toList]
  rfl

/-- What the k-th round adds. -/
def piece (fe : Nat → ByteArray) (k : Nat) : List UInt8 := (if k = 0 then [] else [44]) ++ (34 :: (ebytes (fe k) ++ [34]))

def layK (bs : List UInt8) (fe : Nat → ByteArray) : Nat → List UInt8
  | 0 => bs
  | k + 1 => layK bs fe k ++ piece fe k

/-- The sum of the first k entries' lengths. -/
def tot (fe : Nat → ByteArray) : Nat → Nat
  | 0 => 0
  | k + 1 => tot fe k + (fe k).size

theorem tot_mono (fe : Nat → ByteArray) {a b : Nat} (h : a ≤ b) : tot fe a ≤ tot fe b := by
  induction b with
  | zero => have : a = 0 := by omega
            subst this; exact Nat.le_refl _
  | succ b ih =>
    by_cases e : a = b + 1
    · subst e; exact Nat.le_refl _
    · have := ih (by omega)
      rw [tot]; omega

theorem size_le_tot (fe : Nat → ByteArray) {k n : Nat} (h : k < n) : tot fe k + (fe k).size ≤ tot fe n := by
  have := tot_mono fe (show k + 1 ≤ n by omega)
  rw [tot] at this
  exact this

theorem piece_length (fe : Nat → ByteArray) (k : Nat) : (piece fe k).length = (fe k).size + 2 + (if k = 0 then 0 else 1) := by
  unfold piece
  by_cases h : k = 0
  · simp [h, ebytes_length]
  · simp [h, ebytes_length]

theorem layK_length (bs : List UInt8) (fe : Nat → ByteArray) (k : Nat) : (layK bs fe k).length = bs.length + tot fe k + 2 * k + (k - 1) := by
  induction k with
  | zero => simp [layK, tot]
  | succ k ih =>
    rw [layK, List.length_append, ih, piece_length, tot]
    by_cases h : k = 0
    · subst h; simp; omega
    · rw [if_neg h]; omega

theorem layK_bound (bs : List UInt8) (fe : Nat → ByteArray) (n k : Nat) (hk : k ≤ n) (h : bs.length + 16 * n + tot fe n ≤ 1048576) : (layK bs fe k).length ≤ 1048576 := by
  have := tot_mono fe hk
  rw [layK_length]; omega

/-- A later layout begins with an earlier one. -/
theorem layK_take (bs : List UInt8) (fe : Nat → ByteArray) {k n : Nat} (h : k ≤ n) : ∃ r, layK bs fe n = layK bs fe k ++ r := by
  induction n with
  | zero => have : k = 0 := by omega
            subst this; exact ⟨[], by simp⟩
  | succ n ih =>
    by_cases e : k = n + 1
    · subst e; exact ⟨[], by simp⟩
    · obtain ⟨r, hr⟩ := ih (by omega)
      exact ⟨r ++ piece fe n, by rw [layK, hr, List.append_assoc]⟩

theorem layK_at_old (bs : List UInt8) (fe : Nat → ByteArray) {k n p : Nat} (h : k ≤ n) (hp : p < (layK bs fe k).length) : (layK bs fe n)[p]? = (layK bs fe k)[p]? := by
  obtain ⟨r, hr⟩ := layK_take bs fe h
  rw [hr, List.getElem?_append_left hp]

theorem layK_at_piece (bs : List UInt8) (fe : Nat → ByteArray) {k n j : Nat} (h : k < n) (hj : j < (piece fe k).length) : (layK bs fe n)[(layK bs fe k).length + j]? = (piece fe k)[j]? := by
  have e := layK_at_old bs fe (k := k + 1) (n := n) (p := (layK bs fe k).length + j) h (by rw [layK, List.length_append]; omega)
  rw [e, layK, List.getElem?_append_right (by omega)]
  congr 1
  omega

/-- Where round k's part begins to hold the entry's opening quote. -/
def qpos (bs : List UInt8) (fe : Nat → ByteArray) (k : Nat) : Nat := (layK bs fe k).length + (if k = 0 then 0 else 1)

theorem layK_body (bs : List UInt8) (fe : Nat → ByteArray) {n p : Nat} (hp : p < bs.length) : (layK bs fe n)[p]? = bs[p]? :=
  layK_at_old bs fe (k := 0) (Nat.zero_le _) hp

theorem layK_comma (bs : List UInt8) (fe : Nat → ByteArray) {k n : Nat} (h : k < n) (h0 : k ≠ 0) : (layK bs fe n)[(layK bs fe k).length]? = some 44 := by
  have e := layK_at_piece bs fe h (j := 0) (by rw [piece_length]; omega)
  rw [Nat.add_zero] at e
  rw [e]; simp [piece, h0]

theorem piece_at (fe : Nat → ByteArray) (k j : Nat) : (piece fe k)[(if k = 0 then 0 else 1) + j]? = (34 :: (ebytes (fe k) ++ [34]))[j]? := by
  unfold piece
  by_cases h : k = 0
  · simp [h]
  · rw [if_neg h, if_neg h, List.getElem?_append_right (by simp)]
    congr 1
    simp

theorem layK_in (bs : List UInt8) (fe : Nat → ByteArray) {k n j : Nat} (h : k < n) (hj : j < (fe k).size + 2) : (layK bs fe n)[qpos bs fe k + j]? = (34 :: (ebytes (fe k) ++ [34]))[j]? := by
  have e := layK_at_piece bs fe h (j := (if k = 0 then 0 else 1) + j) (by rw [piece_length]; omega)
  rw [qpos, Nat.add_assoc, e, piece_at]

theorem layK_open (bs : List UInt8) (fe : Nat → ByteArray) {k n : Nat} (h : k < n) : (layK bs fe n)[qpos bs fe k]? = some 34 := by
  have e := layK_in bs fe h (j := 0) (by omega)
  rw [Nat.add_zero] at e
  rw [e]; rfl

theorem layK_entry (bs : List UInt8) (fe : Nat → ByteArray) {k n j : Nat} (h : k < n) (hj : j < (fe k).size) : (layK bs fe n)[qpos bs fe k + 1 + j]? = some ((fe k)[j]) := by
  have e := layK_in bs fe h (j := 1 + j) (by omega)
  rw [← Nat.add_assoc] at e
  rw [e, Nat.add_comm 1 j, List.getElem?_cons_succ, List.getElem?_append_left (by rw [ebytes_length]; exact hj)]
  rw [List.getElem?_eq_getElem (by rw [ebytes_length]; exact hj)]
  rfl

theorem layK_close (bs : List UInt8) (fe : Nat → ByteArray) {k n : Nat} (h : k < n) : (layK bs fe n)[qpos bs fe k + 1 + (fe k).size]? = some 34 := by
  have e := layK_in bs fe h (j := 1 + (fe k).size) (by omega)
  rw [← Nat.add_assoc] at e
  rw [e, Nat.add_comm 1, List.getElem?_cons_succ, List.getElem?_append_right (by rw [ebytes_length]; omega)]
  simp [ebytes_length]

theorem qpos_next (bs : List UInt8) (fe : Nat → ByteArray) (k : Nat) : (layK bs fe (k + 1)).length = qpos bs fe k + 1 + (fe k).size + 1 := by
  rw [layK, List.length_append, piece_length, qpos]; omega

/-- Two parts, a comma between: the whole. -/
theorem layK_split (bs : List UInt8) (fe : Nat → ByteArray) (k m : Nat) (hk : 0 < k) : layK (layK bs fe k ++ [44]) (fun i => fe (k + i)) (m + 1) = layK bs fe (k + (m + 1)) := by
  induction m with
  | zero =>
    rw [layK, layK, Nat.zero_add, layK]
    simp [piece, show k ≠ 0 by omega]
  | succ m ih =>
    rw [layK, ih, ← Nat.add_assoc k (m + 1) 1, layK]
    congr 1

theorem layK_congr (bs : List UInt8) (fe fe' : Nat → ByteArray) (n : Nat) (h : ∀ i, i < n → fe i = fe' i) : layK bs fe n = layK bs fe' n := by
  induction n with
  | zero => rfl
  | succ n ih => rw [layK, layK, ih (fun i hi => h i (by omega)), piece, piece, h n (by omega)]

end Go.Proofs.Qxb6603940a
