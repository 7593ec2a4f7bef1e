/-
  Numbers and their digits: plain arithmetic, no program in sight.
-/
import Derived.Test.YtanfpnidlgejhaaDoorPlain
namespace Go.Proofs.YtanfpnidlgejhaaDoor

theorem pow_pos2 (k : Nat) : (0 : Int) < 2 ^ k := by
  induction k with
  | zero => decide
  | succ k ih => rw [Int.pow_succ]; omega
theorem pow_add2 (a b : Nat) : (2 : Int) ^ (a + b) = 2 ^ a * 2 ^ b := by
  induction b with
  | zero => simp
  | succ b ih => rw [Nat.add_succ, Int.pow_succ, Int.pow_succ, ih, Int.mul_assoc]
theorem div_pow (x : Int) (a b : Nat) : x / 2 ^ (a + b) = x / 2 ^ a / 2 ^ b := by
  rw [pow_add2]
  exact (Int.ediv_ediv_of_nonneg (Int.le_of_lt (pow_pos2 a))).symm
/-- The number with the digits f 0, .., f (n - 1) of e bits each. -/
def dn (e : Nat) (f : Nat → Int) : Nat → Int
  | 0 => 0
  | n + 1 => dn e f n + f n * 2 ^ (e * n)
theorem dn_bd (e : Nat) (f : Nat → Int) (n : Nat) (hf : ∀ i, i < n → 0 ≤ f i ∧ f i < 2 ^ e) : 0 ≤ dn e f n ∧ dn e f n < 2 ^ (e * n) := by
  induction n with
  | zero => simp [dn]
  | succ n ih =>
    obtain ⟨h0, h1⟩ := ih (fun i hi => hf i (by omega))
    obtain ⟨f0, f1⟩ := hf n (by omega)
    have hp := pow_pos2 (e * n)
    rw [dn, Nat.mul_succ, pow_add2]
    have h2 : 0 ≤ f n * 2 ^ (e * n) := Int.mul_nonneg f0 (Int.le_of_lt hp)
    have h3 : (f n + 1) * 2 ^ (e * n) ≤ 2 ^ e * 2 ^ (e * n) := Int.mul_le_mul_of_nonneg_right (by omega) (Int.le_of_lt hp)
    rw [Int.add_mul, Int.one_mul] at h3
    rw [Int.mul_comm (2 ^ (e * n)) (2 ^ e)]
    omega
/-- Cut off below a digit. -/
theorem dn_div (e : Nat) (f : Nat → Int) (n : Nat) (hf : ∀ i, i < n → 0 ≤ f i ∧ f i < 2 ^ e) : ∀ i, i < n → dn e f n / 2 ^ (e * i) % 2 ^ e = f i := by
  induction n with
  | zero => intro i hi; omega
  | succ n ih =>
    intro i hi
    have hp := pow_pos2 (e * n)
    have he := pow_pos2 e
    rw [dn]
    by_cases h : i = n
    · subst h
      obtain ⟨h0, h1⟩ := dn_bd e f i (fun j hj => hf j (by omega))
      obtain ⟨f0, f1⟩ := hf i (by omega)
      rw [Int.add_mul_ediv_right _ _ (by omega), Int.ediv_eq_zero_of_lt h0 h1, Int.zero_add, Int.emod_eq_of_lt f0 f1]
    · have hi' : i < n := by omega
      rw [← ih (fun j hj => hf j (by omega)) i hi']
      have e1 : e * n = e * i + (e + e * (n - i - 1)) := by
        rw [show e + e * (n - i - 1) = e * (n - i) from by rw [Nat.add_comm, ← Nat.mul_succ]; congr 1; omega, ← Nat.mul_add]; congr 1; omega
      rw [e1, pow_add2, pow_add2, ← Int.mul_assoc, ← Int.mul_assoc]
      generalize (2 : Int) ^ (e * i) = P
      generalize (2 : Int) ^ (e * (n - i - 1)) = Q
      by_cases hP : P = 0
      · subst hP; simp
      · have : f n * P * 2 ^ e * Q = (f n * Q * 2 ^ e) * P := by
          rw [Int.mul_assoc (f n) P, Int.mul_comm P, ← Int.mul_assoc, Int.mul_assoc (f n * 2 ^ e) P Q, Int.mul_comm P Q, ← Int.mul_assoc, Int.mul_assoc (f n) (2 ^ e) Q, Int.mul_comm (2 ^ e) Q, ← Int.mul_assoc]
        rw [this, Int.add_mul_ediv_right _ _ hP, Int.add_mul_emod_self_right]
theorem dn_congr (e : Nat) (f g : Nat → Int) (n : Nat) (h : ∀ i, i < n → f i = g i) : dn e f n = dn e g n := by
  induction n with
  | zero => rfl
  | succ n ih => rw [dn, dn, ih (fun i hi => h i (by omega)), h n (by omega)]
/-- The digits of a number are the number. -/
theorem dn_digits (e : Nat) (x : Int) (n : Nat) (h0 : 0 ≤ x) (h1 : x < 2 ^ (e * n)) : dn e (fun i => x / 2 ^ (e * i) % 2 ^ e) n = x := by
  have key : ∀ m, dn e (fun i => x / 2 ^ (e * i) % 2 ^ e) m = x % 2 ^ (e * m) := by
    intro m
    induction m with
    | zero => simp [dn]
    | succ m ih =>
      rw [dn, ih, Nat.mul_succ, pow_add2, Int.mul_comm (2 ^ (e * m)) (2 ^ e)]
      have hp := pow_pos2 (e * m)
      have he := pow_pos2 e
      generalize (2 : Int) ^ (e * m) = P at *
      generalize (2 : Int) ^ e = E at *
      have a1 := Int.emod_add_mul_ediv x P
      have a2 := Int.emod_add_mul_ediv (x / P) E
      have a3 := Int.emod_nonneg x (show P ≠ 0 by omega)
      have a4 := Int.emod_lt_of_pos x hp
      have a5 := Int.emod_nonneg (x / P) (show E ≠ 0 by omega)
      have a6 := Int.emod_lt_of_pos (x / P) he
      have hlt : x % P + x / P % E * P < E * P := by
        have : (x / P % E + 1) * P ≤ E * P := Int.mul_le_mul_of_nonneg_right (by omega) (by omega)
        rw [Int.add_mul, Int.one_mul] at this
        omega
      have hnn : 0 ≤ x % P + x / P % E * P := by
        have := Int.mul_nonneg a5 (Int.le_of_lt hp)
        omega
      have hx : x = x % P + x / P % E * P + (E * P) * (x / P / E) := by
        have e1 : P * (x / P) = x / P % E * P + (E * P) * (x / P / E) := by
          conv => lhs; rw [← a2]
          rw [Int.mul_add, Int.mul_comm P (x / P % E), ← Int.mul_assoc, Int.mul_comm P E]
        omega
      conv => rhs; rw [hx]
      rw [Int.add_mul_emod_self_left, Int.emod_eq_of_lt hnn hlt]
  rw [key n, Int.emod_eq_of_lt h0 h1]
/-- A bit of a byte is the number's. -/
theorem bit_of (b : Nat → Int) (n : Nat) (hb : ∀ i, i < n → 0 ≤ b i ∧ b i < 256) (p : Nat) (hp : p < 8 * n) : b (p / 8) / 2 ^ (p % 8) % 2 = dn 8 b n / 2 ^ p % 2 := by
  have h := dn_div 8 b n hb (p / 8) (by omega)
  conv => rhs; rw [show p = 8 * (p / 8) + p % 8 from by omega, div_pow]
  generalize dn 8 b n / 2 ^ (8 * (p / 8)) = x at *
  rw [← h]
  have h8 : p % 8 < 8 := Nat.mod_lt _ (by omega)
  generalize p % 8 = r at *
  have : r = 0 ∨ r = 1 ∨ r = 2 ∨ r = 3 ∨ r = 4 ∨ r = 5 ∨ r = 6 ∨ r = 7 := by omega
  rcases this with rfl | rfl | rfl | rfl | rfl | rfl | rfl | rfl <;> omega
/-- The first k bits of a number. -/
theorem mod_succ (x : Int) (k : Nat) : x % 2 ^ (k + 1) = x % 2 ^ k + x / 2 ^ k % 2 * 2 ^ k := by
  have hp := pow_pos2 k
  rw [Int.pow_succ]
  generalize (2 : Int) ^ k = P at *
  have a1 := Int.emod_add_mul_ediv x P
  have a2 := Int.emod_add_mul_ediv (x / P) 2
  have a3 := Int.emod_nonneg x (show P ≠ 0 by omega)
  have a4 := Int.emod_lt_of_pos x hp
  rcases Int.emod_two_eq (x / P) with h | h
  · rw [h]
    have hx : x = x % P + P * 2 * (x / P / 2) := by
      have : P * (x / P) = P * 2 * (x / P / 2) := by rw [Int.mul_assoc]; congr 1; omega
      omega
    conv => lhs; rw [hx]
    rw [Int.add_mul_emod_self_left, Int.emod_eq_of_lt a3 (by omega)]
    omega
  · rw [h]
    have hx : x = x % P + P + P * 2 * (x / P / 2) := by
      have : P * (x / P) = P + P * 2 * (x / P / 2) := by
        have e : x / P = 1 + 2 * (x / P / 2) := by omega
        conv => lhs; rw [e]
        rw [Int.mul_add, Int.mul_one, Int.mul_assoc]
      omega
    conv => lhs; rw [hx]
    rw [Int.add_mul_emod_self_left, Int.emod_eq_of_lt (by omega) (by omega)]
    omega

/-! ### Bits put together -/
theorem cast_lt2 (X j : Nat) (h : (X : Int) < 2 ^ j) : X < 2 ^ j := by
  have e : (2 : Int) ^ j = ((2 ^ j : Nat) : Int) := by simp
  rw [e] at h; omega
theorem nat_or_disj (a b j : Nat) (ha : a < 2 ^ j) : a ||| (b * 2 ^ j) = a + b * 2 ^ j := by
  rw [Nat.or_comm, ← Nat.shiftLeft_eq, ← Nat.shiftLeft_add_eq_or_of_lt ha, Nat.add_comm]

theorem u8_or (j : Nat) (x y : Int) (x0 : 0 ≤ x) (x1 : x < 2 ^ j) (y0 : 0 ≤ y) (h : x + y * 2 ^ j < 256) : bits .or .u8 x (y * 2 ^ j) = x + y * 2 ^ j := by
  obtain ⟨X, rfl⟩ := Int.eq_ofNat_of_zero_le x0
  obtain ⟨Y, rfl⟩ := Int.eq_ofNat_of_zero_le y0
  have e : (Y : Int) * 2 ^ j = ((Y * 2 ^ j : Nat) : Int) := by simp
  rw [e] at h ⊢
  rw [u8_or_nat X _ (by omega) (by omega), nat_or_disj X Y j (cast_lt2 X j x1)]
  simp
theorem u8_rro (j : Nat) (x y : Int) (x0 : 0 ≤ x) (x1 : x < 2 ^ j) (y0 : 0 ≤ y) (h : x + y * 2 ^ j < 256) : bits .or .u8 (y * 2 ^ j) x = x + y * 2 ^ j := by
  obtain ⟨X, rfl⟩ := Int.eq_ofNat_of_zero_le x0
  obtain ⟨Y, rfl⟩ := Int.eq_ofNat_of_zero_le y0
  have e : (Y : Int) * 2 ^ j = ((Y * 2 ^ j : Nat) : Int) := by simp
  rw [e] at h ⊢
  rw [u8_or_nat _ X (by omega) (by omega), Nat.or_comm, nat_or_disj X Y j (cast_lt2 X j x1)]
  simp

theorem u16_or (j : Nat) (x y : Int) (x0 : 0 ≤ x) (x1 : x < 2 ^ j) (y0 : 0 ≤ y) (h : x + y * 2 ^ j < 65536) : bits .or .u16 x (y * 2 ^ j) = x + y * 2 ^ j := by
  obtain ⟨X, rfl⟩ := Int.eq_ofNat_of_zero_le x0
  obtain ⟨Y, rfl⟩ := Int.eq_ofNat_of_zero_le y0
  have e : (Y : Int) * 2 ^ j = ((Y * 2 ^ j : Nat) : Int) := by simp
  rw [e] at h ⊢
  rw [u16_or_nat X _ (by omega) (by omega), nat_or_disj X Y j (cast_lt2 X j x1)]
  simp
theorem u16_rro (j : Nat) (x y : Int) (x0 : 0 ≤ x) (x1 : x < 2 ^ j) (y0 : 0 ≤ y) (h : x + y * 2 ^ j < 65536) : bits .or .u16 (y * 2 ^ j) x = x + y * 2 ^ j := by
  obtain ⟨X, rfl⟩ := Int.eq_ofNat_of_zero_le x0
  obtain ⟨Y, rfl⟩ := Int.eq_ofNat_of_zero_le y0
  have e : (Y : Int) * 2 ^ j = ((Y * 2 ^ j : Nat) : Int) := by simp
  rw [e] at h ⊢
  rw [u16_or_nat _ X (by omega) (by omega), Nat.or_comm, nat_or_disj X Y j (cast_lt2 X j x1)]
  simp

theorem u32_or (j : Nat) (x y : Int) (x0 : 0 ≤ x) (x1 : x < 2 ^ j) (y0 : 0 ≤ y) (h : x + y * 2 ^ j < 4294967296) : bits .or .u32 x (y * 2 ^ j) = x + y * 2 ^ j := by
  obtain ⟨X, rfl⟩ := Int.eq_ofNat_of_zero_le x0
  obtain ⟨Y, rfl⟩ := Int.eq_ofNat_of_zero_le y0
  have e : (Y : Int) * 2 ^ j = ((Y * 2 ^ j : Nat) : Int) := by simp
  rw [e] at h ⊢
  rw [u32_or_nat X _ (by omega) (by omega), nat_or_disj X Y j (cast_lt2 X j x1)]
  simp
theorem u32_rro (j : Nat) (x y : Int) (x0 : 0 ≤ x) (x1 : x < 2 ^ j) (y0 : 0 ≤ y) (h : x + y * 2 ^ j < 4294967296) : bits .or .u32 (y * 2 ^ j) x = x + y * 2 ^ j := by
  obtain ⟨X, rfl⟩ := Int.eq_ofNat_of_zero_le x0
  obtain ⟨Y, rfl⟩ := Int.eq_ofNat_of_zero_le y0
  have e : (Y : Int) * 2 ^ j = ((Y * 2 ^ j : Nat) : Int) := by simp
  rw [e] at h ⊢
  rw [u32_or_nat _ X (by omega) (by omega), Nat.or_comm, nat_or_disj X Y j (cast_lt2 X j x1)]
  simp

theorem u64_or (j : Nat) (x y : Int) (x0 : 0 ≤ x) (x1 : x < 2 ^ j) (y0 : 0 ≤ y) (h : x + y * 2 ^ j < 18446744073709551616) : bits .or .u64 x (y * 2 ^ j) = x + y * 2 ^ j := by
  obtain ⟨X, rfl⟩ := Int.eq_ofNat_of_zero_le x0
  obtain ⟨Y, rfl⟩ := Int.eq_ofNat_of_zero_le y0
  have e : (Y : Int) * 2 ^ j = ((Y * 2 ^ j : Nat) : Int) := by simp
  rw [e] at h ⊢
  rw [u64_or_nat X _ (by omega) (by omega), nat_or_disj X Y j (cast_lt2 X j x1)]
  simp
theorem u64_rro (j : Nat) (x y : Int) (x0 : 0 ≤ x) (x1 : x < 2 ^ j) (y0 : 0 ≤ y) (h : x + y * 2 ^ j < 18446744073709551616) : bits .or .u64 (y * 2 ^ j) x = x + y * 2 ^ j := by
  obtain ⟨X, rfl⟩ := Int.eq_ofNat_of_zero_le x0
  obtain ⟨Y, rfl⟩ := Int.eq_ofNat_of_zero_le y0
  have e : (Y : Int) * 2 ^ j = ((Y * 2 ^ j : Nat) : Int) := by simp
  rw [e] at h ⊢
  rw [u64_or_nat _ X (by omega) (by omega), Nat.or_comm, nat_or_disj X Y j (cast_lt2 X j x1)]
  simp
end Go.Proofs.YtanfpnidlgejhaaDoor
