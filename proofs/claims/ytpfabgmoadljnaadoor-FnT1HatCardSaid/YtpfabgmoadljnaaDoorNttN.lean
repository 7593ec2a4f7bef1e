/-
  The number-theoretic transform: plain arithmetic, no program in sight.
-/
import Derived.Test.YtpfabgmoadljnaaDoorPlain
namespace Go.Proofs.YtpfabgmoadljnaaDoor

/-- Congruent modulo the prime. -/
def Cg (a b : Int) : Prop := a % 8380417 = b % 8380417
theorem Cg.rfl {a : Int} : Cg a a := Eq.refl _
theorem Cg.symm {a b : Int} (h : Cg a b) : Cg b a := Eq.symm h
theorem Cg.trans {a b c : Int} (h : Cg a b) (k : Cg b c) : Cg a c := Eq.trans h k
theorem Cg.of_eq {a b : Int} (h : a = b) : Cg a b := by rw [h]; exact Cg.rfl
theorem Cg.add {a b c d : Int} (h : Cg a b) (k : Cg c d) : Cg (a + c) (b + d) := by unfold Cg at *; omega
theorem Cg.sub {a b c d : Int} (h : Cg a b) (k : Cg c d) : Cg (a - c) (b - d) := by unfold Cg at *; omega
theorem Cg.mul {a b c d : Int} (h : Cg a b) (k : Cg c d) : Cg (a * c) (b * d) := by
  unfold Cg at *
  rw [Int.mul_emod, h, k, ← Int.mul_emod]
theorem Cg.mod (a : Int) : Cg (a % 8380417) a := by unfold Cg; omega
theorem Cg.modq (a : Int) : Cg (a + 8380417) a := by unfold Cg; omega
theorem Cg.eq {a b : Int} (h : Cg a b) (a0 : 0 ≤ a) (a1 : a < 8380417) (b0 : 0 ≤ b) (b1 : b < 8380417) : a = b := by unfold Cg at h; omega
theorem Cg.emod {a b : Int} (h : Cg a b) : a % 8380417 = b % 8380417 := h
theorem Cg.mul_left {a b : Int} (c : Int) (h : Cg a b) : Cg (c * a) (c * b) := Cg.mul Cg.rfl h
theorem Cg.mul_right {a b : Int} (c : Int) (h : Cg a b) : Cg (a * c) (b * c) := Cg.mul h Cg.rfl
theorem Cg.pow {a b : Int} (h : Cg a b) (n : Nat) : Cg (a ^ n) (b ^ n) := by
  induction n with
  | zero => exact Cg.of_eq (by rw [Int.pow_zero, Int.pow_zero])
  | succ n ih => rw [Int.pow_succ, Int.pow_succ]; exact Cg.mul ih h

/-- Sums. -/
def sm (f : Nat → Int) : Nat → Int
  | 0 => 0
  | n + 1 => sm f n + f n
theorem sm_congr {f g : Nat → Int} {n : Nat} (h : ∀ i, i < n → f i = g i) : sm f n = sm g n := by
  induction n with
  | zero => rfl
  | succ n ih => rw [sm, sm, ih (fun i hi => h i (by omega)), h n (by omega)]
theorem sm_cg {f g : Nat → Int} {n : Nat} (h : ∀ i, i < n → Cg (f i) (g i)) : Cg (sm f n) (sm g n) := by
  induction n with
  | zero => exact Cg.rfl
  | succ n ih => rw [sm, sm]; exact Cg.add (ih (fun i hi => h i (by omega))) (h n (by omega))
theorem sm_add (f g : Nat → Int) (n : Nat) : sm (fun i => f i + g i) n = sm f n + sm g n := by
  induction n with
  | zero => rfl
  | succ n ih => simp only [sm, ih]; omega
theorem sm_mul (c : Int) (f : Nat → Int) (n : Nat) : sm (fun i => c * f i) n = c * sm f n := by
  induction n with
  | zero => simp [sm]
  | succ n ih => simp only [sm, ih, Int.mul_add]
theorem sm_zero (n : Nat) : sm (fun _ => 0) n = 0 := by
  induction n with
  | zero => rfl
  | succ n ih => simp only [sm, ih]; rfl
theorem sm_append (f : Nat → Int) (m n : Nat) : sm f (m + n) = sm f m + sm (fun j => f (m + j)) n := by
  induction n with
  | zero => simp [sm]
  | succ n ih => rw [Nat.add_succ, sm, sm, ih]; omega
theorem sm_shift (f : Nat → Int) (n : Nat) : sm f (n + 1) = f 0 + sm (fun j => f (j + 1)) n := by
  rw [Nat.add_comm, sm_append]
  simp only [sm, Int.zero_add, Nat.add_comm 1]
theorem sm_swap (f : Nat → Nat → Int) (m n : Nat) : sm (fun i => sm (fun j => f i j) n) m = sm (fun j => sm (fun i => f i j) m) n := by
  induction m with
  | zero => simp only [sm, sm_zero]
  | succ m ih => simp only [sm, ih, sm_add]

/-! ### Roots -/
def rev8 (n : Nat) : Nat := (List.range 8).foldl (fun o k => 2 * o + n / 2 ^ k % 2) 0
def rtN (i : Nat) : Nat := 1753 ^ (2 * rev8 i + 1) % 8380417
def zrN (m : Nat) : Nat := 1753 ^ rev8 m % 8380417
/-- The root number i; the powers that the transform multiplies by, plain and in Montgomery's form. -/
def rt (i : Nat) : Int := rtN i
def zr (m : Nat) : Int := zrN m
def zetaN (m : Nat) : Nat := zrN m * 4294967296 % 8380417
def zetaV (m : Nat) : Int := zetaN m
theorem rt_bd (i : Nat) : 0 ≤ rt i ∧ rt i < 8380417 := by
  have : rtN i < 8380417 := Nat.mod_lt _ (by decide)
  unfold rt; omega
theorem zeta_bd (i : Nat) : 0 ≤ zetaV i ∧ zetaV i < 8380417 := by
  have : zetaN i < 8380417 := Nat.mod_lt _ (by decide)
  unfold zetaV; omega
theorem zeta_red (m : Nat) (x : Int) : Cg (mred (zetaV m * x)) (zr m * x) := by
  have h : Cg (zetaV m * 8265825) (zr m) := by
    unfold Cg zetaV zr zetaN
    have := Int.natCast_emod (zrN m * 4294967296) 8380417
    rw [this, Int.natCast_mul]
    omega
  have h2 : Cg (mred (zetaV m * x)) (zetaV m * x * 8265825) := Cg.mod _
  refine h2.trans ?_
  rw [Int.mul_assoc, Int.mul_comm x, ← Int.mul_assoc]
  exact h.mul_right x
/-- The powers of a root that the stages meet. -/
def lens : List Nat := [128, 64, 32, 16, 8, 4, 2, 1]
def rootsOk : Bool := (List.range 256).all fun i => lens.all fun len => (rtN i ^ len) % 8380417 == if i / len % 2 = 0 then zrN (128 / len + i / (2 * len)) else 8380417 - zrN (128 / len + i / (2 * len))
set_option maxRecDepth 100000 in
theorem roots_ok : rootsOk = true := by decide +kernel
theorem root_pow (i len : Nat) (hi : i < 256) (hl : len ∈ lens) : Cg (rt i ^ len) (if i / len % 2 = 0 then zr (128 / len + i / (2 * len)) else - zr (128 / len + i / (2 * len))) := by
  have h := List.all_eq_true.1 roots_ok i (List.mem_range.2 hi)
  have h2 := List.all_eq_true.1 h len hl
  simp only [beq_iff_eq] at h2
  have h3 : ((rtN i ^ len % 8380417 : Nat) : Int) = rt i ^ len % 8380417 := by
    unfold rt
    rw [Int.natCast_emod, Int.natCast_pow]
    rfl
  have hz : zrN (128 / len + i / (2 * len)) < 8380417 := Nat.mod_lt _ (by decide)
  have hlt := Nat.mod_lt (rtN i ^ len) (show 8380417 > 0 by decide)
  unfold Cg
  rw [← h3]
  unfold zr
  by_cases hc : i / len % 2 = 0
  · rw [if_pos hc] at h2 ⊢
    omega
  · rw [if_neg hc] at h2 ⊢
    omega

/-! ### The stages -/
def bst (len : Nat) (z : Nat → Int) (p : Nat) : Int :=
  if p % (2 * len) < len then (z p + mred (zetaV (128 / len + p / (2 * len)) * z (p + len))) % 8380417
  else (z (p - len) + 8380417 - mred (zetaV (128 / len + p / (2 * len)) * z p)) % 8380417
theorem bst_bd (len : Nat) (z : Nat → Int) (p : Nat) : 0 ≤ bst len z p ∧ bst len z p < 8380417 := by
  unfold bst; split <;> omega
/-- The value of the block b of N numbers. -/
def ev (N : Nat) (z : Nat → Int) (b : Nat) (x : Int) : Int := sm (fun j => z (N * b + j) * x ^ j) N
theorem ev_halves (len : Nat) (z : Nat → Int) (b : Nat) (x : Int) : ev (2 * len) z b x = sm (fun j => (z (2 * len * b + j) + x ^ len * z (2 * len * b + (len + j))) * x ^ j) len := by
  unfold ev
  rw [show 2 * len = len + len by omega, sm_append]
  rw [← sm_add]
  apply sm_congr
  intro j _
  rw [Int.pow_add]
  grind
theorem pow_add' (x : Int) (a b : Nat) : x ^ (a + b) = x ^ a * x ^ b := Int.pow_add ..
theorem bst_lo (len b j : Nat) (z : Nat → Int) (hj : j < len) : Cg (bst len z (2 * len * b + j)) (z (2 * len * b + j) + zr (128 / len + b) * z (2 * len * b + (len + j))) := by
  have hm : (2 * len * b + j) % (2 * len) = j := by rw [Nat.mul_add_mod]; exact Nat.mod_eq_of_lt (by omega)
  have hd : (2 * len * b + j) / (2 * len) = b := by rw [Nat.mul_add_div (by omega), Nat.div_eq_of_lt (by omega)]; omega
  unfold bst
  rw [hm, hd, if_pos hj, show 2 * len * b + j + len = 2 * len * b + (len + j) by omega]
  exact (Cg.mod _).trans (Cg.add Cg.rfl (zeta_red _ _))
theorem bst_hi (len b j : Nat) (z : Nat → Int) (hj : j < len) : Cg (bst len z (2 * len * b + (len + j))) (z (2 * len * b + j) - zr (128 / len + b) * z (2 * len * b + (len + j))) := by
  have hm : (2 * len * b + (len + j)) % (2 * len) = len + j := by rw [Nat.mul_add_mod]; exact Nat.mod_eq_of_lt (by omega)
  have hd : (2 * len * b + (len + j)) / (2 * len) = b := by rw [Nat.mul_add_div (by omega), Nat.div_eq_of_lt (by omega)]; omega
  unfold bst
  rw [hm, hd, if_neg (by omega), show 2 * len * b + (len + j) - len = 2 * len * b + j by omega]
  refine (Cg.mod _).trans (Cg.sub (Cg.modq _) (zeta_red _ _))
theorem ev_stage (len : Nat) (z : Nat → Int) (i : Nat) (hi : i < 256) (hl : len ∈ lens) (_hp : 0 < len) : Cg (ev len (bst len z) (i / len) (rt i)) (ev (2 * len) z (i / (2 * len)) (rt i)) := by
  have hr := root_pow i len hi hl
  rw [ev_halves]
  unfold ev
  have hb : i / (2 * len) = i / len / 2 := by rw [Nat.div_div_eq_div_mul, Nat.mul_comm]
  generalize hB : i / (2 * len) = b at *
  by_cases h2 : i / len % 2 = 0
  · rw [if_pos h2] at hr
    have e : len * (i / len) = 2 * len * b := by rw [show i / len = 2 * b by omega]; grind
    apply sm_cg
    intro j hj
    rw [e]
    exact Cg.mul_right _ ((bst_lo len b j z hj).trans (Cg.add Cg.rfl (Cg.mul_right _ hr.symm)))
  · rw [if_neg h2] at hr
    have e : len * (i / len) = 2 * len * b + len := by rw [show i / len = 2 * b + 1 by omega]; grind
    apply sm_cg
    intro j hj
    rw [e, Nat.add_assoc]
    refine Cg.mul_right _ ((bst_hi len b j z hj).trans ?_)
    have := Cg.add (Cg.rfl (a := z (2 * len * b + j))) (Cg.mul_right (z (2 * len * b + (len + j))) hr.symm)
    rw [Int.neg_mul] at this
    exact this
/-- The transform. -/
def nttF (z : Nat → Int) : Nat → Int := bst 1 (bst 2 (bst 4 (bst 8 (bst 16 (bst 32 (bst 64 (bst 128 z)))))))
theorem nttF_val (z : Nat → Int) (i : Nat) (hi : i < 256) : Cg (nttF z i) (sm (fun j => z j * rt i ^ j) 256) := by
  have h128 := ev_stage 128 z i hi (by decide) (by decide)
  have h64 := ev_stage 64 (bst 128 z) i hi (by decide) (by decide)
  have h32 := ev_stage 32 (bst 64 (bst 128 z)) i hi (by decide) (by decide)
  have h16 := ev_stage 16 (bst 32 (bst 64 (bst 128 z))) i hi (by decide) (by decide)
  have h8 := ev_stage 8 (bst 16 (bst 32 (bst 64 (bst 128 z)))) i hi (by decide) (by decide)
  have h4 := ev_stage 4 (bst 8 (bst 16 (bst 32 (bst 64 (bst 128 z))))) i hi (by decide) (by decide)
  have h2 := ev_stage 2 (bst 4 (bst 8 (bst 16 (bst 32 (bst 64 (bst 128 z)))))) i hi (by decide) (by decide)
  have h1 := ev_stage 1 (bst 2 (bst 4 (bst 8 (bst 16 (bst 32 (bst 64 (bst 128 z))))))) i hi (by decide) (by decide)
  have h := h1.trans (h2.trans (h4.trans (h8.trans (h16.trans (h32.trans (h64.trans h128))))))
  have e1 : ev 1 (nttF z) (i / 1) (rt i) = nttF z i := by simp [ev, sm]
  have e2 : ev (2 * 128) z (i / (2 * 128)) (rt i) = sm (fun j => z j * rt i ^ j) 256 := by
    rw [Nat.div_eq_of_lt (show i < 2 * 128 by omega)]
    simp [ev]
  rw [e2] at h
  rw [← e1]
  exact h
theorem nttF_bd (z : Nat → Int) (i : Nat) : 0 ≤ nttF z i ∧ nttF z i < 8380417 := bst_bd _ _ _

/-- The value by Horner's rule: what the reference has after k rounds. -/
def horner (z : Nat → Int) (x : Int) : Nat → Int
  | 0 => 0
  | k + 1 => (horner z x k * x + z (255 - k)) % 8380417
theorem horner_bd (z : Nat → Int) (x : Int) (k : Nat) : 0 ≤ horner z x k ∧ horner z x k < 8380417 := by
  cases k with
  | zero => simp [horner]
  | succ k => rw [horner]; omega
theorem horner_val (z : Nat → Int) (x : Int) (k : Nat) (hk : k ≤ 256) : Cg (horner z x k) (sm (fun j => z (256 - k + j) * x ^ j) k) := by
  induction k with
  | zero => exact Cg.rfl
  | succ k ih =>
    rw [horner, sm_shift]
    refine (Cg.mod _).trans ?_
    rw [Int.add_comm (horner z x k * x)]
    refine Cg.add (Cg.of_eq (by simp [show 256 - (k + 1) = 255 - k by omega])) ?_
    refine (Cg.mul_right x (ih (by omega))).trans (Cg.of_eq ?_)
    rw [Int.mul_comm, ← sm_mul]
    apply sm_congr
    intro j _
    rw [show 256 - (k + 1) + (j + 1) = 256 - k + j by omega, Int.pow_succ]
    grind
theorem fwd_eq (z : Nat → Int) (i : Nat) (hi : i < 256) : nttF z i = horner z (rt i) 256 := by
  refine Cg.eq ((nttF_val z i hi).trans ?_) (nttF_bd z i).1 (nttF_bd z i).2 (horner_bd _ _ _).1 (horner_bd _ _ _).2
  refine Cg.symm ((horner_val z (rt i) 256 (by omega)).trans (Cg.of_eq ?_))
  apply sm_congr
  intro j _
  simp
end Go.Proofs.YtpfabgmoadljnaaDoor
