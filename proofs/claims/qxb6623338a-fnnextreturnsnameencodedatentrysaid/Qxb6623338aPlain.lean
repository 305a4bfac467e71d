/-
  Plain numbers: what a run of bytes stands for, seven bits a byte.
-/
import Derived.Laws.BitsLemmas
import Derived.Lib.VarintBits
import Derived.IntWalk
namespace Go.Proofs.Qxb6623338a

/-- The value of the first j bytes of c, the lowest seven bits first. -/
def val (c : Nat → Int) : Nat → Int
  | 0 => 0
  | j + 1 => val c j + (c j % 128) * 2 ^ (7 * j)

theorem val_nonneg (c : Nat → Int) : ∀ j, 0 ≤ val c j
  | 0 => by simp [val]
  | j + 1 => by
    have h1 := val_nonneg c j
    have h2 : 0 ≤ (c j % 128) * 2 ^ (7 * j) := Int.mul_nonneg (by omega) (Int.pow_nonneg (by omega))
    simp only [val]; omega

theorem pow7 (j : Nat) : (2 : Int) ^ (7 * (j + 1)) = 128 * 2 ^ (7 * j) := by
  rw [Nat.mul_add, Int.pow_add, Int.mul_comm]; rfl

theorem val_lt (c : Nat → Int) : ∀ j, val c j < 2 ^ (7 * j)
  | 0 => by simp [val]
  | j + 1 => by
    have h1 := val_lt c j
    have h0 : (0 : Int) < 2 ^ (7 * j) := Int.pow_pos (by omega)
    have h2 : (c j % 128) * 2 ^ (7 * j) ≤ 127 * 2 ^ (7 * j) := Int.mul_le_mul_of_nonneg_right (by omega) (by omega)
    rw [pow7]
    simp only [val]; omega

theorem wraps_i64 (n : Int) (h₀ : 0 ≤ n) (h₁ : n < 2 ^ 63) : IntKind.i64.wrap n = n := by rw [IntKind.wrap_i64]; omega

theorem pow_le (j : Nat) (hj : j ≤ 8) : (2 : Int) ^ (7 * j) ≤ 72057594037927936 := by
  have h : (2 : Nat) ^ (7 * j) ≤ 2 ^ 56 := Nat.pow_le_pow_right (by omega) (by omega)
  have h' : ((2 ^ (7 * j) : Nat) : Int) ≤ ((2 ^ 56 : Nat) : Int) := by exact_mod_cast h
  simpa using h'

/-- One byte more, as the walk writes it. -/
theorem or_step (c : Nat → Int) (j : Nat) (hj : j ≤ 8) : bits .or .i64 (val c j) (RowKit.wrap64 (c j % 128 * 2 ^ (7 * j))) = val c (j + 1) := by
  have hp := pow_le j hj
  have hp0 : (0 : Int) < 2 ^ (7 * j) := Int.pow_pos (by omega)
  have h0 : 0 ≤ c j % 128 * 2 ^ (7 * j) := Int.mul_nonneg (by omega) (by omega)
  have h1 : c j % 128 * 2 ^ (7 * j) ≤ 127 * 2 ^ (7 * j) := Int.mul_le_mul_of_nonneg_right (by omega) (by omega)
  have hw : RowKit.wrap64 (c j % 128 * 2 ^ (7 * j)) = c j % 128 * 2 ^ (7 * j) := IntWalk.wrap64_in _ ⟨by omega, by omega⟩
  rw [hw]
  have hv := val_lt c j
  exact bits_join_low .i64 63 (by decide) wraps_i64 (7 * j) (val c j) _ (val_nonneg c j) hv (by omega) h0 (Int.mul_emod_left _ _) (by omega)

/-- The value of m bytes from place t on. -/
def tl (c : Nat → Int) : Nat → Nat → Int
  | _, 0 => 0
  | t, m + 1 => c t % 128 + 128 * tl c (t + 1) m

theorem tl_nonneg (c : Nat → Int) : ∀ m t, 0 ≤ tl c t m
  | 0, t => by simp [tl]
  | m + 1, t => by
    have := tl_nonneg c m (t + 1)
    simp only [tl]; omega

theorem val_tl (c : Nat → Int) : ∀ m t, val c t + 2 ^ (7 * t) * tl c t m = val c (t + m)
  | 0, t => by simp [tl]
  | m + 1, t => by
    have h := val_tl c m (t + 1)
    rw [show t + (m + 1) = t + 1 + m by omega, ← h, pow7]
    simp only [tl, val]
    rw [Int.mul_add, Int.mul_comm (2 ^ (7 * t)) (c t % 128), Int.add_assoc]
    congr 2
    rw [← Int.mul_assoc, Int.mul_comm (2 ^ (7 * t)) 128]

theorem val_is (c : Nat → Int) (k : Nat) : val c k = tl c 0 k := by
  have h := val_tl c k 0
  simp [val] at h
  exact h.symm

theorem tl_pos (c : Nat → Int) : ∀ m t, 0 < c (t + m) % 128 → 0 < tl c t (m + 1)
  | 0, t, h => by simp only [tl]; simp at h; omega
  | m + 1, t, h => by
    have h' := tl_pos c m (t + 1) (by rw [show t + 1 + m = t + (m + 1) by omega]; exact h)
    rw [tl]; omega

theorem val_lt63 (c : Nat → Int) (k : Nat) (hk : k ≤ 9) : val c k < 9223372036854775808 := by
  have h := val_lt c k
  have h1 : (2 : Nat) ^ (7 * k) ≤ 2 ^ 63 := Nat.pow_le_pow_right (by omega) (by omega)
  have h2 : ((2 ^ (7 * k) : Nat) : Int) ≤ ((2 ^ 63 : Nat) : Int) := by exact_mod_cast h1
  have h3 : (2 : Int) ^ (7 * k) ≤ 9223372036854775808 := by simpa using h2
  omega

theorem tl_lt (c : Nat → Int) : ∀ m t, tl c t m < 2 ^ (7 * m)
  | 0, t => by simp [tl]
  | m + 1, t => by
    have h := tl_lt c m (t + 1)
    rw [pow7]
    simp only [tl]; omega

theorem tl_lt63 (c : Nat → Int) (m t : Nat) (hm : m ≤ 9) : tl c t m < 9223372036854775808 := by
  have h := tl_lt c m t
  have h1 : (2 : Nat) ^ (7 * m) ≤ 2 ^ 63 := Nat.pow_le_pow_right (by omega) (by omega)
  have h2 : ((2 ^ (7 * m) : Nat) : Int) ≤ ((2 ^ 63 : Nat) : Int) := by exact_mod_cast h1
  have h3 : (2 : Int) ^ (7 * m) ≤ 9223372036854775808 := by simpa using h2
  omega

theorem tl_one (c : Nat → Int) (t : Nat) : tl c t 1 = c t % 128 := by simp [tl]
theorem tl_two (c : Nat → Int) (t q : Nat) : tl c t (q + 2) = c t % 128 + 128 * tl c (t + 1) (q + 1) := rfl

theorem and127 (x : Int) (h0 : 0 ≤ x) (h1 : x < 9223372036854775808) : bits .and .i64 x 127 = x % 128 := bits_mask .i64 63 (by decide) wraps_i64 7 (by decide) x h0 h1

theorem or128 (x : Int) (h0 : 0 ≤ x) (h1 : x < 128) : bits .or .u8 x 128 = x + 128 :=
  bits_join_low .u8 8 (by decide) wraps_u8 7 x 128 h0 h1 (by omega) (by omega) (by omega) (by omega)

/-- What is taken off again is what was put on. -/
theorem wrap_back (a v : Int) (h0 : 0 ≤ v) (h1 : v < 9223372036854775808) : RowKit.wrap64 (RowKit.wrap64 (a + v) - a) = v := by
  unfold RowKit.wrap64; omega

end Go.Proofs.Qxb6623338a
