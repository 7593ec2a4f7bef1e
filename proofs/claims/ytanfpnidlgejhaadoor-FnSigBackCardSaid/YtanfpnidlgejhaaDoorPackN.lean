/-
  Packing as digits of one number in two bases: plain arithmetic, no program in sight.
-/
import Derived.Test.YtanfpnidlgejhaaDoorBits
namespace Go.Proofs.YtanfpnidlgejhaaDoor

/-- Byte j of the numbers of d bits each. -/
def pby (d : Nat) (f : Nat → Int) (n j : Nat) : Int := dn d f n / 2 ^ (8 * j) % 256
theorem pby_bd (d : Nat) (f : Nat → Int) (n j : Nat) : 0 ≤ pby d f n j ∧ pby d f n j < 256 := by unfold pby; omega
/-- The same of the first p bits alone. -/
def ppart (x : Int) (p j : Nat) : Int := x % 2 ^ p / 2 ^ (8 * j) % 256
theorem ppart_bd (x : Int) (p j : Nat) : 0 ≤ ppart x p j ∧ ppart x p j < 256 := by unfold ppart; omega
theorem ppart_zero (x : Int) (j : Nat) : ppart x 0 j = 0 := by simp [ppart, Int.emod_one]
theorem ppart_full (x : Int) (p j : Nat) (h0 : 0 ≤ x) (h1 : x < 2 ^ p) : ppart x p j = x / 2 ^ (8 * j) % 256 := by
  unfold ppart; rw [Int.emod_eq_of_lt h0 h1]
theorem ppart_low (x : Int) (p : Nat) : ppart x p (p / 8) < 2 ^ (p % 8) := by
  unfold ppart
  have e : (2 : Int) ^ p = 2 ^ (8 * (p / 8)) * 2 ^ (p % 8) := by rw [← pow_add2]; congr 1; omega
  have hp := pow_pos2 (8 * (p / 8))
  have hq := pow_pos2 (p % 8)
  have h1 : x % 2 ^ p / 2 ^ (8 * (p / 8)) < 2 ^ (p % 8) := by
    apply Int.ediv_lt_of_lt_mul hp
    rw [Int.mul_comm, ← e]
    exact Int.emod_lt_of_pos _ (pow_pos2 p)
  have h2 : 0 ≤ x % 2 ^ p / 2 ^ (8 * (p / 8)) := Int.ediv_nonneg (Int.emod_nonneg _ (by have := pow_pos2 p; omega)) (Int.le_of_lt hp)
  have h3 : x % 2 ^ p / 2 ^ (8 * (p / 8)) % 256 ≤ x % 2 ^ p / 2 ^ (8 * (p / 8)) := by omega
  omega
theorem ppart_other (x : Int) (p j : Nat) (h : j ≠ p / 8) : ppart x (p + 1) j = ppart x p j := by
  unfold ppart
  by_cases hlt : j < p / 8
  · rw [mod_succ]
    generalize x / 2 ^ p % 2 = b
    have e : (2 : Int) ^ p = 2 ^ (8 * j) * (256 * 2 ^ (p - 8 * j - 8)) := by
      rw [show (256 : Int) = 2 ^ 8 from rfl, ← pow_add2, ← pow_add2]; congr 1; omega
    have e2 : b * 2 ^ p = (b * 2 ^ (p - 8 * j - 8) * 256) * 2 ^ (8 * j) := by rw [e]; simp only [Int.mul_comm, Int.mul_left_comm]
    rw [e2, Int.add_mul_ediv_right _ _ (by have := pow_pos2 (8 * j); omega), Int.add_mul_emod_self_right]
  · have hb : p + 1 ≤ 8 * j := by omega
    have m0 := Int.emod_nonneg x (show (2 : Int) ^ p ≠ 0 by have := pow_pos2 p; omega)
    have m1 := Int.emod_lt_of_pos x (pow_pos2 p)
    have n0 := Int.emod_nonneg x (show (2 : Int) ^ (p + 1) ≠ 0 by have := pow_pos2 (p + 1); omega)
    have n1 := Int.emod_lt_of_pos x (pow_pos2 (p + 1))
    have e : (2 : Int) ^ (8 * j) = 2 ^ (p + 1) * 2 ^ (8 * j - (p + 1)) := by rw [← pow_add2]; congr 1; omega
    have hq := pow_pos2 (8 * j - (p + 1))
    have hle : (2 : Int) ^ (p + 1) ≤ 2 ^ (8 * j) := by
      rw [e]
      have := Int.mul_le_mul_of_nonneg_left (show (1 : Int) ≤ 2 ^ (8 * j - (p + 1)) by omega) (Int.le_of_lt (pow_pos2 (p + 1)))
      omega
    have hs : (2 : Int) ^ (p + 1) = 2 * 2 ^ p := by rw [Int.pow_succ, Int.mul_comm]
    rw [Int.ediv_eq_zero_of_lt n0 (by omega), Int.ediv_eq_zero_of_lt m0 (by omega)]
theorem ppart_step (x : Int) (p : Nat) : ppart x (p + 1) (p / 8) = ppart x p (p / 8) + x / 2 ^ p % 2 * 2 ^ (p % 8) := by
  have hl := ppart_low x p
  unfold ppart at *
  rw [mod_succ]
  have e : (2 : Int) ^ p = 2 ^ (p % 8) * 2 ^ (8 * (p / 8)) := by rw [← pow_add2]; congr 1; omega
  have hb : x / 2 ^ p % 2 = 0 ∨ x / 2 ^ p % 2 = 1 := Int.emod_two_eq _
  generalize x / 2 ^ p % 2 = b at *
  have e2 : b * 2 ^ p = (b * 2 ^ (p % 8)) * 2 ^ (8 * (p / 8)) := by rw [e, Int.mul_assoc]
  rw [e2, Int.add_mul_ediv_right _ _ (by have := pow_pos2 (8 * (p / 8)); omega)]
  have hr : (2 : Int) ^ (p % 8) ≤ 128 ∧ 0 < (2 : Int) ^ (p % 8) := by
    have h8 : p % 8 < 8 := Nat.mod_lt _ (by omega)
    generalize p % 8 = r at *
    have : r = 0 ∨ r = 1 ∨ r = 2 ∨ r = 3 ∨ r = 4 ∨ r = 5 ∨ r = 6 ∨ r = 7 := by omega
    rcases this with rfl | rfl | rfl | rfl | rfl | rfl | rfl | rfl <;> decide
  have hd : (2 : Int) ^ (p % 8) ∣ 256 := by
    have h8 : p % 8 < 8 := Nat.mod_lt _ (by omega)
    generalize p % 8 = r at *
    have : r = 0 ∨ r = 1 ∨ r = 2 ∨ r = 3 ∨ r = 4 ∨ r = 5 ∨ r = 6 ∨ r = 7 := by omega
    rcases this with rfl | rfl | rfl | rfl | rfl | rfl | rfl | rfl <;> decide
  have h1 : x % 2 ^ p / 2 ^ (8 * (p / 8)) < 2 ^ (p % 8) := by
    apply Int.ediv_lt_of_lt_mul (pow_pos2 _)
    rw [← e]
    exact Int.emod_lt_of_pos _ (pow_pos2 p)
  have h2 : 0 ≤ x % 2 ^ p / 2 ^ (8 * (p / 8)) := Int.ediv_nonneg (Int.emod_nonneg _ (by have := pow_pos2 p; omega)) (Int.le_of_lt (pow_pos2 _))
  generalize x % 2 ^ p / 2 ^ (8 * (p / 8)) = A at *
  generalize (2 : Int) ^ (p % 8) = R at *
  rcases hb with rfl | rfl <;> omega
/-- A bit of a number is its digit's. -/
theorem bit_dig (d : Nat) (f : Nat → Int) (n : Nat) (hf : ∀ i, i < n → 0 ≤ f i ∧ f i < 2 ^ d) (i k : Nat) (hi : i < n) (hk : k < d) : dn d f n / 2 ^ (d * i + k) % 2 = f i / 2 ^ k % 2 := by
  have h := dn_div d f n hf i hi
  rw [div_pow]
  generalize dn d f n / 2 ^ (d * i) = x at *
  rw [← h]
  have e : (2 : Int) ^ d = 2 ^ k * (2 * 2 ^ (d - k - 1)) := by
    rw [show (2 : Int) * 2 ^ (d - k - 1) = 2 ^ (1 + (d - k - 1)) by rw [pow_add2]; rfl, ← pow_add2]; congr 1; omega
  have hp := pow_pos2 k
  have hx := Int.emod_add_mul_ediv x (2 ^ d)
  have : x = x % 2 ^ d + (x / 2 ^ d * 2 ^ (d - k - 1) * 2) * 2 ^ k := by
    conv => lhs; rw [← hx]
    congr 1
    rw [e]; simp only [Int.mul_assoc, Int.mul_comm, Int.mul_left_comm]
  conv => lhs; rw [this]
  rw [Int.add_mul_ediv_right _ _ (by omega), Int.add_mul_emod_self_right]
theorem pow_mono2 (a b : Nat) (h : a ≤ b) : (2 : Int) ^ a ≤ 2 ^ b := by
  have e : (2 : Int) ^ b = 2 ^ a * 2 ^ (b - a) := by rw [← pow_add2]; congr 1; omega
  have := Int.mul_le_mul_of_nonneg_left (show (1 : Int) ≤ 2 ^ (b - a) by have := pow_pos2 (b - a); omega) (Int.le_of_lt (pow_pos2 a))
  omega
theorem ppart_end (d : Nat) (f : Nat → Int) (n j : Nat) (hf : ∀ i, i < n → 0 ≤ f i ∧ f i < 2 ^ d) : ppart (dn d f n) (d * n) j = pby d f n j := by
  obtain ⟨h0, h1⟩ := dn_bd d f n hf
  exact ppart_full _ _ _ h0 h1
/-- The value that a bit is put to. -/
theorem ppart_val (d : Nat) (f : Nat → Int) (hf : ∀ i, i < 256 → 0 ≤ f i ∧ f i < 2 ^ d) (i k p : Nat) (hi : i < 256) (hk : k < d) (hp : p = d * i + k) :
    bits .or .u8 (ppart (dn d f 256) p (p / 8)) (f i / 2 ^ k % 2 * 2 ^ (p % 8)) = ppart (dn d f 256) (p + 1) (p / 8) := by
  have h1 := ppart_low (dn d f 256) p
  have h2 := ppart_bd (dn d f 256) p (p / 8)
  have h3 := ppart_bd (dn d f 256) (p + 1) (p / 8)
  have h4 := ppart_step (dn d f 256) p
  have h5 := bit_dig d f 256 hf i k hi hk
  rw [← hp] at h5
  rw [h5] at h4
  rw [u8_or _ _ _ h2.1 h1 (by omega) (by omega), h4]
theorem pby_ext (d : Nat) (f g : Nat → Int) (n : Nat) (h : ∀ i, i < n → f i = g i) (j : Nat) : pby d f n j = pby d g n j := by
  unfold pby; rw [dn_congr d f g n h]
/-- Unpacked of packed. -/
theorem dn_pby (d : Nat) (f : Nat → Int) (hf : ∀ i, i < 256 → 0 ≤ f i ∧ f i < 2 ^ d) : dn 8 (pby d f 256) (32 * d) = dn d f 256 := by
  obtain ⟨h0, h1⟩ := dn_bd d f 256 hf
  exact dn_digits 8 _ (32 * d) h0 (by rw [show 8 * (32 * d) = d * 256 by omega]; exact h1)
theorem pby_dig (d : Nat) (b : Nat → Int) (hb : ∀ i, i < 32 * d → 0 ≤ b i ∧ b i < 256) (j : Nat) (hj : j < 32 * d) : pby d (fun i => dn 8 b (32 * d) / 2 ^ (d * i) % 2 ^ d) 256 j = b j := by
  obtain ⟨h0, h1⟩ := dn_bd 8 b (32 * d) hb
  unfold pby
  rw [dn_digits d _ 256 h0 (by rw [show d * 256 = 8 * (32 * d) by omega]; exact h1)]
  exact dn_div 8 b (32 * d) hb j hj
end Go.Proofs.YtanfpnidlgejhaaDoor
