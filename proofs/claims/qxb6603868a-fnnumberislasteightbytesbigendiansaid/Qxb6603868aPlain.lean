/-
  PLAIN ARITHMETIC for the seat's two laws: no Go in sight.
-/
import Derived.Laws.BitsAllLaws
namespace Go.Proofs.Qxb6603868a

/-- What 'number' has gathered behind the first k bytes f 0, f 1, ..: on 64 bits. -/
def numf (f : Nat → Nat) : Nat → Nat
  | 0 => 0
  | k + 1 => (numf f k * 256 + f k) % 18446744073709551616

theorem numf_lt (f : Nat → Nat) (k : Nat) : numf f k < 18446744073709551616 := by
  cases k with
  | zero => simp [numf]
  | succ k => exact Nat.mod_lt _ (by decide)

/-- One round of 'n = n<<8 | uint64(x)'. -/
theorem or_step (N c : Nat) (hc : c < 256) :
    bits .or .u64 (IntKind.u64.wrap ((N : Int) * 256)) (c : Int) = (((N * 256 + c) % 18446744073709551616 : Nat) : Int) := by
  have e : IntKind.u64.wrap ((N : Int) * 256) = ((N * 256 % 18446744073709551616 : Nat) : Int) := by
    rw [IntKind.wrap_u64]; omega
  rw [e, u64_or_nat _ _ (Nat.mod_lt _ (by decide)) (by omega), nat_join 8 _ _ (by omega) (by omega)]
  congr 1
  omega

/-- The sum of the last t bytes of n, the least significant first. -/
def low (f : Nat → Nat) (n : Nat) : Nat → Nat
  | 0 => 0
  | t + 1 => low f n t + f (n - 1 - t) * 256 ^ t

theorem low_lt (f : Nat → Nat) (hf : ∀ i, f i < 256) (n t : Nat) : low f n t < 256 ^ t := by
  induction t with
  | zero => simp [low]
  | succ t ih =>
    have := hf (n - 1 - t)
    have h1 : f (n - 1 - t) * 256 ^ t ≤ 255 * 256 ^ t := Nat.mul_le_mul_right _ (by omega)
    rw [low, Nat.pow_succ]
    omega

/-- What 'number' gathers, parted at the last t bytes. -/
theorem numf_low (f : Nat → Nat) (n t : Nat) (ht : t ≤ n) :
    numf f n = (numf f (n - t) * 256 ^ t + low f n t) % 18446744073709551616 := by
  induction t with
  | zero => simp only [low, Nat.pow_zero, Nat.mul_one, Nat.sub_zero, Nat.add_zero]; exact (Nat.mod_eq_of_lt (numf_lt f n)).symm
  | succ t ih =>
    rw [ih (by omega)]
    obtain ⟨m, hm⟩ : ∃ m, n - t = m + 1 := ⟨n - t - 1, by omega⟩
    have e1 : n - (t + 1) = m := by omega
    have e2 : n - 1 - t = m := by omega
    rw [e1, hm, low, e2, numf]
    rw [Nat.add_mod, Nat.mod_mul_mod, ← Nat.add_mod]
    congr 1
    rw [Nat.add_mul, Nat.pow_succ, Nat.mul_assoc, Nat.mul_comm 256 (256 ^ t)]
    omega

/-- 'number' is the sum of the last min(n, 8) bytes. -/
theorem numf_last (f : Nat → Nat) (hf : ∀ i, f i < 256) (n : Nat) : numf f n = low f n (min n 8) := by
  rw [numf_low f n (min n 8) (by omega)]
  have hlt := low_lt f hf n (min n 8)
  by_cases h : n ≤ 8
  · have e : min n 8 = n := by omega
    rw [e] at hlt ⊢
    rw [Nat.sub_self, numf, Nat.zero_mul, Nat.zero_add]
    refine Nat.mod_eq_of_lt (Nat.lt_of_lt_of_le hlt ?_)
    exact Nat.pow_le_pow_right (n := 256) (by decide) h
  · have e : min n 8 = 8 := by omega
    rw [e] at hlt ⊢
    have e8 : (256 : Nat) ^ 8 = 18446744073709551616 := by decide
    rw [e8] at hlt ⊢
    omega

/-- The bytes of x, k of them, the most significant first. -/
def enc (x k j : Nat) : Nat := x / 256 ^ (k - 1 - j) % 256

theorem enc_lt (x k j : Nat) : enc x k j < 256 := Nat.mod_lt _ (by decide)

theorem low_enc (x k t : Nat) (ht : t ≤ k) : low (enc x k) k t = x % 256 ^ t := by
  induction t with
  | zero => simp [low, Nat.mod_one]
  | succ t ih =>
    rw [low, ih (by omega), enc]
    have e : k - 1 - (k - 1 - t) = t := by omega
    rw [e, Nat.pow_succ, Nat.mod_mul, Nat.mul_comm (256 ^ t)]

/-- Read back: what the first k bytes of x say is x on 8k bits. -/
theorem numf_enc (x k : Nat) (hk : k ≤ 8) : numf (enc x k) k = x % 256 ^ k := by
  rw [numf_last _ (enc_lt x k)]
  have e : min k 8 = k := by omega
  rw [e, low_enc x k k (Nat.le_refl _)]

theorem and_mask (x k : Nat) : x &&& (256 ^ k - 1) = x % 256 ^ k := by
  have e : (256 : Nat) ^ k = 2 ^ (8 * k) := by rw [Nat.pow_mul]
  rw [e]
  exact Nat.and_two_pow_sub_one_eq_mod x (8 * k)

end Go.Proofs.Qxb6603868a
