/-
  The product of polynomials modulo X^256 + 1 and the transform: plain arithmetic, no program in sight.
-/
import Derived.Test.YtpfabgmoadljnaaDoorNttI
namespace Go.Proofs.YtpfabgmoadljnaaDoor

def negsOk : Bool := (List.range 256).all fun i => rtN i ^ 256 % 8380417 == 8380416
set_option maxRecDepth 100000 in
theorem negs_ok : negsOk = true := by decide +kernel
theorem rt_neg (i : Nat) (hi : i < 256) : Cg (rt i ^ 256) (-1) := by
  have h := List.all_eq_true.1 negs_ok i (List.mem_range.2 hi)
  simp only [beq_iff_eq] at h
  have h3 : ((rtN i ^ 256 % 8380417 : Nat) : Int) = rt i ^ 256 % 8380417 := by
    unfold rt
    rw [Int.natCast_emod, Int.natCast_pow]
    rfl
  unfold Cg
  rw [← h3, h]
  rfl

/-- One place of a polynomial turned. -/
def upd (p : Nat → Int) (k : Nat) (v : Int) : Nat → Int := fun t => if t = k then v else p t
theorem sm_upd (p : Nat → Int) (k : Nat) (v x : Int) (n : Nat) (hk : k < n) : sm (fun t => upd p k v t * x ^ t) n = sm (fun t => p t * x ^ t) n + (v - p k) * x ^ k := by
  induction n with
  | zero => omega
  | succ n ih =>
    rw [sm, sm]
    by_cases e : k = n
    · subst e
      have h1 : sm (fun t => upd p k v t * x ^ t) k = sm (fun t => p t * x ^ t) k := sm_congr fun t ht => by
        unfold upd
        rw [if_neg (by omega)]
      rw [h1]
      unfold upd
      rw [if_pos rfl]
      grind
    · rw [ih (by omega)]
      unfold upd
      rw [if_neg (by omega)]
      omega
/-- What is put to a place: the product, or its opposite. -/
def wrv (i j : Nat) (v : Int) : Int := if 256 ≤ i + j then 8380417 - v else v
def pstep (a b : Nat → Int) (i j : Nat) (p : Nat → Int) : Nat → Int := upd p ((i + j) % 256) ((p ((i + j) % 256) + wrv i j (a i * b j % 8380417)) % 8380417)
def pin (a b : Nat → Int) (i : Nat) (p : Nat → Int) : Nat → Nat → Int
  | 0 => p
  | J + 1 => pstep a b i J (pin a b i p J)
def pout (a b : Nat → Int) : Nat → Nat → Int
  | 0 => fun _ => 0
  | I + 1 => pin a b I (pout a b I) 256
/-- The product. -/
def pmul (a b : Nat → Int) : Nat → Int := pout a b 256
theorem pin_bd (a b : Nat → Int) (i : Nat) (p : Nat → Int) (hp : ∀ k, 0 ≤ p k ∧ p k < 8380417) (J k : Nat) : 0 ≤ pin a b i p J k ∧ pin a b i p J k < 8380417 := by
  induction J with
  | zero => exact hp k
  | succ J ih =>
    unfold pin pstep upd
    split
    · omega
    · exact ih
theorem pout_bd (a b : Nat → Int) (I k : Nat) : 0 ≤ pout a b I k ∧ pout a b I k < 8380417 := by
  induction I generalizing k with
  | zero => simp [pout]
  | succ I ih => exact pin_bd a b I _ (fun k => ih k) 256 k
theorem pmul_bd (a b : Nat → Int) (k : Nat) : 0 ≤ pmul a b k ∧ pmul a b k < 8380417 := pout_bd a b 256 k
theorem wrv_val (i j : Nat) (v x : Int) (hi : i < 256) (hj : j < 256) (hx : Cg (x ^ 256) (-1)) : Cg (wrv i j v * x ^ ((i + j) % 256)) (v * x ^ (i + j)) := by
  unfold wrv
  by_cases h : 256 ≤ i + j
  · rw [if_pos h]
    have e : (i + j) % 256 + 256 = i + j := by omega
    have e2 : x ^ (i + j) = x ^ ((i + j) % 256) * x ^ 256 := by rw [← Int.pow_add, e]
    rw [e2]
    have h1 : Cg (v * (x ^ ((i + j) % 256) * x ^ 256)) (v * (x ^ ((i + j) % 256) * (-1))) := Cg.mul_left _ (Cg.mul_left _ hx)
    refine Cg.trans ?_ h1.symm
    have h2 : Cg (8380417 - v) (-v) := by unfold Cg; omega
    refine (Cg.mul_right _ h2).trans (Cg.of_eq ?_)
    grind
  · rw [if_neg h, Nat.mod_eq_of_lt (by omega)]
    exact Cg.rfl
theorem pin_val (a b : Nat → Int) (i : Nat) (p : Nat → Int) (x : Int) (hi : i < 256) (hx : Cg (x ^ 256) (-1)) (J : Nat) (hJ : J ≤ 256) :
    Cg (sm (fun t => pin a b i p J t * x ^ t) 256) (sm (fun t => p t * x ^ t) 256 + a i * x ^ i * sm (fun j => b j * x ^ j) J) := by
  induction J with
  | zero => rw [sm, Int.mul_zero, Int.add_zero]; exact Cg.rfl
  | succ J ih =>
    have h := ih (by omega)
    rw [pin, pstep, sm_upd _ _ _ _ _ (Nat.mod_lt _ (by omega)), show sm (fun j => b j * x ^ j) (J + 1) = sm (fun j => b j * x ^ j) J + b J * x ^ J from rfl, Int.mul_add, ← Int.add_assoc]
    refine Cg.add h ?_
    generalize hP : pin a b i p J ((i + J) % 256) = P
    have h2 : Cg ((P + wrv i J (a i * b J % 8380417)) % 8380417 - P) (wrv i J (a i * b J % 8380417)) := by unfold Cg; omega
    refine (Cg.mul_right _ h2).trans ((wrv_val i J _ x hi (by omega) hx).trans ?_)
    refine (Cg.mul_right _ (Cg.mod _)).trans (Cg.of_eq ?_)
    rw [Int.pow_add]
    grind
theorem pout_val (a b : Nat → Int) (x : Int) (hx : Cg (x ^ 256) (-1)) (I : Nat) (hI : I ≤ 256) :
    Cg (sm (fun t => pout a b I t * x ^ t) 256) (sm (fun i => a i * x ^ i) I * sm (fun j => b j * x ^ j) 256) := by
  induction I with
  | zero =>
    refine Cg.of_eq ?_
    rw [sm, Int.zero_mul]
    have : sm (fun t => pout a b 0 t * x ^ t) 256 = sm (fun _ => 0) 256 := sm_congr fun t _ => by simp [pout]
    rw [this, sm_zero]
  | succ I ih =>
    have h := (pin_val a b I (pout a b I) x (by omega) hx 256 (by omega)).trans (Cg.add (ih (by omega)) Cg.rfl)
    rw [← Int.add_mul] at h
    exact h
theorem pmul_val (a b : Nat → Int) (i : Nat) (hi : i < 256) : Cg (sm (fun t => pmul a b t * rt i ^ t) 256) (sm (fun t => a t * rt i ^ t) 256 * sm (fun t => b t * rt i ^ t) 256) :=
  pout_val a b (rt i) (rt_neg i hi) 256 (by omega)

/-- A transform by the numbers that were multiplied by 2 to the power of 32. -/
theorem ntt_mred (f : Nat → Int) (i : Nat) (hi : i < 256) : Cg (nttF f i) (4294967296 * sm (fun t => mred (f t) * rt i ^ t) 256) := by
  refine (nttF_val f i hi).trans ?_
  rw [← sm_mul]
  apply sm_cg
  intro t _
  rw [← Int.mul_assoc]
  refine Cg.mul_right _ ?_
  have := mred_shift (f t)
  unfold Cg
  rw [Int.mul_comm, this]
/-- By way of the transforms. -/
theorem prod_back (f g : Nat → Int) (j : Nat) (hj : j < 256) : invF (fun i => mred (nttF f i * nttF g i)) j = pmul (fun i => mred (f i)) (fun i => mred (g i)) j * 4193792 % 8380417 := by
  have hT : ∀ k, k < 256 → 0 ≤ pmul (fun i => mred (f i)) (fun i => mred (g i)) k * 4193792 % 8380417 ∧ pmul (fun i => mred (f i)) (fun i => mred (g i)) k * 4193792 % 8380417 < 8380417 := fun k _ => by omega
  rw [← back_there (fun k => pmul (fun i => mred (f i)) (fun i => mred (g i)) k * 4193792 % 8380417) hT j hj]
  refine invF_congr _ _ (fun i hi => ?_) j hj
  refine Cg.eq ?_ (mred_lo _) (mred_hi _) (nttF_bd _ i).1 (nttF_bd _ i).2
  refine Cg.trans ?_ (nttF_val _ i hi).symm
  have h1 : Cg (sm (fun t => pmul (fun i => mred (f i)) (fun i => mred (g i)) t * 4193792 % 8380417 * rt i ^ t) 256) (4193792 * sm (fun t => pmul (fun i => mred (f i)) (fun i => mred (g i)) t * rt i ^ t) 256) := by
    rw [← sm_mul]
    apply sm_cg
    intro t _
    refine (Cg.mul_right _ (Cg.mod _)).trans (Cg.of_eq ?_)
    grind
  refine Cg.trans ?_ (h1.trans (Cg.mul_left _ (pmul_val _ _ i hi))).symm
  have h2 : Cg (mred (nttF f i * nttF g i)) (nttF f i * nttF g i * 8265825) := Cg.mod _
  refine h2.trans ((Cg.mul_right _ (Cg.mul (ntt_mred f i hi) (ntt_mred g i hi))).trans ?_)
  generalize sm (fun t => mred (f t) * rt i ^ t) 256 = A
  generalize sm (fun t => mred (g t) * rt i ^ t) 256 = B
  have h3 : Cg (4294967296 * 4294967296 * 8265825) 4193792 := by unfold Cg; decide
  refine Cg.trans (Cg.of_eq ?_) (Cg.mul_right (A * B) h3)
  grind
end Go.Proofs.YtpfabgmoadljnaaDoor
