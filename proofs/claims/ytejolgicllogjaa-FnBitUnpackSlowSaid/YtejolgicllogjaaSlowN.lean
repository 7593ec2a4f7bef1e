/-
  Bits that are gathered and handed on: plain arithmetic, no program in sight.
-/
import Derived.Test.YtejolgicllogjaaPackN
namespace Go.Proofs.Ytejolgicllogjaa

/-- What is held of a number when p bits came in and q went out. -/
def pacc (x : Int) (p q : Nat) : Int := x % 2 ^ p / 2 ^ q
theorem pacc_bd (x : Int) (p q : Nat) (h : q ≤ p) : 0 ≤ pacc x p q ∧ pacc x p q < 2 ^ (p - q) := by
  unfold pacc
  have hp := pow_pos2 p
  have hq := pow_pos2 q
  refine ⟨Int.ediv_nonneg (Int.emod_nonneg _ (by omega)) (Int.le_of_lt hq), ?_⟩
  apply Int.ediv_lt_of_lt_mul hq
  rw [← pow_add2, show p - q + q = p by omega]
  exact Int.emod_lt_of_pos _ hp
theorem pacc_start (x : Int) : pacc x 0 0 = 0 := by simp [pacc, Int.emod_one]
theorem pacc_end (x : Int) (p : Nat) : pacc x p p = 0 := by
  have := pacc_bd x p p (Nat.le_refl _)
  rw [Nat.sub_self, Int.pow_zero] at this
  omega
theorem mod_add2 (x : Int) (p d : Nat) : x % 2 ^ (p + d) = x % 2 ^ p + x / 2 ^ p % 2 ^ d * 2 ^ p := by
  induction d with
  | zero => simp [Int.emod_one]
  | succ d ih =>
    rw [← Nat.add_assoc, mod_succ, ih, mod_succ (x / 2 ^ p) d, div_pow x p d, pow_add2 p d]
    rw [Int.add_mul, Int.add_assoc]
    congr 2
    rw [Int.mul_assoc, Int.mul_comm (2 ^ p)]
theorem pacc_in (x : Int) (p q d : Nat) (h : q ≤ p) : pacc x (p + d) q = pacc x p q + x / 2 ^ p % 2 ^ d * 2 ^ (p - q) := by
  unfold pacc
  rw [mod_add2]
  have hq := pow_pos2 q
  have e : (2 : Int) ^ p = 2 ^ (p - q) * 2 ^ q := by rw [← pow_add2]; congr 1; omega
  generalize hB : x / 2 ^ p % 2 ^ d = b
  have e2 : b * 2 ^ p = b * 2 ^ (p - q) * 2 ^ q := by rw [e, Int.mul_assoc]
  rw [e2, Int.add_mul_ediv_right _ _ (by omega)]
theorem pacc_out (x : Int) (p q : Nat) (d : Nat) : pacc x p q / 2 ^ d = pacc x p (q + d) := by
  unfold pacc
  rw [div_pow]
theorem pacc_low (x : Int) (p q d : Nat) (h : q + d ≤ p) : pacc x p q % 2 ^ d = x / 2 ^ q % 2 ^ d := by
  have e : x % 2 ^ p = x % 2 ^ (q + d) + x / 2 ^ (q + d) % 2 ^ (p - (q + d)) * 2 ^ (q + d) := by
    rw [← mod_add2]; congr 2; omega
  unfold pacc
  rw [e]
  generalize x / 2 ^ (q + d) % 2 ^ (p - (q + d)) = b
  have hq := pow_pos2 q
  have hd := pow_pos2 d
  have e2 : b * 2 ^ (q + d) = (b * 2 ^ d) * 2 ^ q := by rw [pow_add2, Int.mul_assoc, Int.mul_comm (2 ^ q)]
  rw [e2, Int.add_mul_ediv_right _ _ (by omega), Int.add_mul_emod_self_right, mod_add2]
  have m0 := Int.emod_nonneg x (show (2 : Int) ^ q ≠ 0 by omega)
  have m1 := Int.emod_lt_of_pos x hq
  rw [Int.add_mul_ediv_right _ _ (by omega), Int.ediv_eq_zero_of_lt m0 m1, Int.zero_add]
  exact Int.emod_emod_of_dvd _ (Int.dvd_refl _)
end Go.Proofs.Ytejolgicllogjaa
