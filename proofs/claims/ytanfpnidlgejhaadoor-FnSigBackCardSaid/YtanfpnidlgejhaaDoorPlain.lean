/-
  Plain facts on numbers, with no program in sight: Montgomery reduction modulo 8380417, and powers modulo it.
-/
import Derived.WalkKit
import Derived.Laws.Externs
import Derived.Laws.BitsAllLaws
namespace Go.Proofs.YtanfpnidlgejhaaDoor

theorem ret_int {k : IntKind} {a b : Int} (h : a = b) : Ending.returned (.int k a) = .returned (.int k b) := by rw [h]
theorem ret_bool {a b : Bool} (h : a = b) : Ending.returned (.bool a) = .returned (.bool b) := by rw [h]
theorem ret_int2 {k l : IntKind} {a b c d : Int} (h : a = b) (h' : c = d) : Ending.returned (.tuple #[.int k a, .int l c]) = .returned (.tuple #[.int k b, .int l d]) := by rw [h, h']

/-- What a walk is told of a slice of integers that came in: it is nil; or it leads to a row of 'cap' cells, the numbers 'zs' (the first 'len' are its elements, the rest its spare room), each fitting its kind. -/
def IsRow (k : IntKind) (w : World) (a : Option Addr) (len cap : Nat) (zs : List Int) : Prop :=
  (a = none ∧ len = 0 ∧ cap = 0 ∧ zs = []) ∨
  ∃ x, a = some x ∧ len ≤ cap ∧ cap ≤ maxLen ∧ zs.length = cap ∧ (∀ i, i < zs.length → w.cell? (x.add i) = some (.int k (zs.getD i 0))) ∧ ∀ n ∈ zs, (Lit.int k n).wf = true

/-! ### Montgomery reduction -/
theorem mont_low (x : Int) (h0 : 0 ≤ x) (h1 : x < 35993616941842432) :
    0 ≤ (x + x % 4294967296 * 4236238847 % 4294967296 * 8380417) / 4294967296 ∧ (x + x % 4294967296 * 4236238847 % 4294967296 * 8380417) / 4294967296 < 16760834 := by
  omega

theorem mont_eq (x : Int) : (x + x % 4294967296 * 4236238847 % 4294967296 * 8380417) / 4294967296 % 8380417 = x * 8265825 % 8380417 := by
  generalize ht : x % 4294967296 * 4236238847 % 4294967296 = t
  have hd : (x + t * 8380417) % 4294967296 = 0 := by omega
  generalize hu : (x + t * 8380417) / 4294967296 = u
  have hm : x + t * 8380417 = 4294967296 * u := by omega
  clear hd hu ht
  omega

/-- The residue by 2 to the power of 32. -/
def mred (x : Int) : Int := x * 8265825 % 8380417
theorem mred_lo (x : Int) : 0 ≤ mred x := by unfold mred; omega
theorem mred_hi (x : Int) : mred x < 8380417 := by unfold mred; omega
theorem mred_shift (x : Int) : mred x * 4294967296 % 8380417 = x % 8380417 := by unfold mred; omega

theorem mred_mod (x : Int) : mred (x % 8380417) = mred x := by unfold mred; omega
theorem mred_mul (x y : Int) : mred (x * y) = mred x * mred y % 8380417 * 4193792 % 8380417 := by
  have h1 : mred x * 4294967296 % 8380417 = x % 8380417 := mred_shift x
  have h2 : mred y * 4294967296 % 8380417 = y % 8380417 := mred_shift y
  have h3 : x * y % 8380417 = mred x * mred y * 18446744073709551616 % 8380417 := by
    rw [Int.mul_emod, ← h1, ← h2, ← Int.mul_emod, show mred x * 4294967296 * (mred y * 4294967296) = mred x * mred y * 18446744073709551616 by grind]
  rw [← mred_mod (x * y), h3, mred_mod]
  generalize mred x * mred y = p
  unfold mred
  omega

theorem prod_lt (a b A B : Int) (ha0 : 0 ≤ a) (ha : a ≤ A) (hb0 : 0 ≤ b) (hb : b ≤ B) : 0 ≤ a * b ∧ a * b ≤ A * B :=
  ⟨Int.mul_nonneg ha0 hb0, Int.mul_le_mul ha hb hb0 (by omega)⟩

theorem u32_mask (i : Nat) (x : Int) (h0 : 0 ≤ x) (h1 : x < 4294967296) (hi : 2 ^ i - 1 < 4294967296) : bits .and .u32 x ((2 ^ i - 1 : Nat) : Int) = x % ((2 ^ i : Nat) : Int) := by
  obtain ⟨X, rfl⟩ := Int.eq_ofNat_of_zero_le h0
  rw [u32_and_nat X _ (by omega) hi, Nat.and_two_pow_sub_one_eq_mod]
  rfl

theorem u32_and15 (x : Int) (h0 : 0 ≤ x) (h1 : x < 4294967296) : bits .and .u32 x 15 = x % 16 := u32_mask 4 x h0 h1 (by decide)

/-! ### Powers -/
def powq : Nat → Int → Int → Int → Int
  | 0, out, _, _ => out
  | f + 1, out, a, n => if n ≤ 0 then out else powq f (if n % 2 = 1 then out * a % 8380417 else out) (a * a % 8380417) (n / 2)

theorem powq_two : powq 64 1 2 32 = 4193792 := by decide +kernel
theorem powq_inv : powq 64 1 4193792 8380415 = 8265825 := by decide +kernel

/-- What Sub64 does in the model. -/
def sub64Entry : Array Value → Sem Value := fun args => do
  let (x, y, b) ← Extern.MathBitsCarry.three "Sub64" args
  pure (Extern.MathBitsCarry.pair ((x + Extern.MathBitsCarry.m64 - y - b) % Extern.MathBitsCarry.m64) (if x < y + b then 1 else 0))

theorem run_sub64 {P : Program} (x y : Int) (w : World) :
    (sub64Entry #[.int .u64 x, .int .u64 y, .int .u64 0]).run P w =
      .ok (Extern.MathBitsCarry.pair ((x.toNat + Extern.MathBitsCarry.m64 - y.toNat - 0) % Extern.MathBitsCarry.m64) (if x.toNat < y.toNat + 0 then 1 else 0)) w := rfl

theorem run_sub64_ge {P : Program} (x : Int) (w : World) (hx : 8380417 ≤ x) (hx' : x < 18446744073709551616) :
    (sub64Entry #[.int .u64 x, .int .u64 8380417, .int .u64 0]).run P w = .ok (.tuple #[.int .u64 (x - 8380417), .int .u64 0]) w := by
  rw [run_sub64]
  obtain ⟨X, rfl⟩ := Int.eq_ofNat_of_zero_le (show 0 ≤ x by omega)
  simp only [Extern.MathBitsCarry.pair, Extern.MathBitsCarry.m64, Int.toNat_natCast]
  rw [if_neg (by simp; omega)]
  congr 5
  simp; omega

theorem run_sub64_lt {P : Program} (x : Int) (w : World) (hx : 0 ≤ x) (hx' : x < 8380417) :
    (sub64Entry #[.int .u64 x, .int .u64 8380417, .int .u64 0]).run P w = .ok (.tuple #[.int .u64 (x - 8380417 + 18446744073709551616), .int .u64 1]) w := by
  rw [run_sub64]
  obtain ⟨X, rfl⟩ := Int.eq_ofNat_of_zero_le hx
  simp only [Extern.MathBitsCarry.pair, Extern.MathBitsCarry.m64, Int.toNat_natCast]
  rw [if_pos (by simp; omega)]
  congr 5
  simp; omega

theorem sub64_back (a D : Int) (hD : D = a - 8380417 + 18446744073709551616) (h0 : 0 ≤ a) (h1 : a < 8380417) : IntKind.u64.wrap (D + 8380417) % 4294967296 = a % 8380417 := by
  subst hD
  have e : IntKind.u64.wrap (a - 8380417 + 18446744073709551616 + 8380417) = a := by
    simp [IntKind.wrap, IntKind.signed, IntKind.bits]
    omega
  rw [e]; omega
end Go.Proofs.YtanfpnidlgejhaaDoor
