/-
  Contracts of the functions on whole polynomials: the thin package's conversions, sums, differences and products, the reference's own, and the laws' readings.
-/
import Derived.Test.YteigpbeamdhjpaaDoorReduced
import Derived.Test.YteigpbeamdhjpaaDoorRound
import Derived.Test.YteigpbeamdhjpaaDoorArr
import Derived.Test.YteigpbeamdhjpaaDoorRegion
namespace Go.Proofs.YteigpbeamdhjpaaDoor
open Go.RowKit




theorem iP : (Tryd.prog.info? 35).map (·.size) = some 256 := by kernel_rfl
@[go_sem] theorem zP (w : World) : (zeroValue 35).run Tryd.prog w = .ok (.agg (arr .i64 256 fun _ => 0)) w := zero_arr (by kernel_rfl) w
@[go_sem] theorem ixP (z : Nat → Int) (i : Nat) (w : World) (h : i < 256) : (Instr.index 35 (.agg (arr .i64 256 z)) (.int .i64 (i : Int))).run Tryd.prog w = .ok (.int .i64 (z i)) w :=
  run_index_arr Tryd.underlying35 Tryd.isAgg3 Tryd.sizeOf3 z i h w
@[go_sem] theorem bdP (w : World) : (Instr.build 35 #[]).run Tryd.prog w = .ok (.agg (arr .i64 256 fun _ => 0)) w := build_arr (by kernel_rfl) w

theorem iB : (Tryd.prog.info? 67).map (·.size) = some 256 := by kernel_rfl
@[go_sem] theorem zB (w : World) : (zeroValue 67).run Tryd.prog w = .ok (.agg (arr .u8 256 fun _ => 0)) w := zero_arr (by kernel_rfl) w
@[go_sem] theorem ixB (z : Nat → Int) (i : Nat) (w : World) (h : i < 256) : (Instr.index 67 (.agg (arr .u8 256 z)) (.int .i64 (i : Int))).run Tryd.prog w = .ok (.int .u8 (z i)) w :=
  run_index_arr Tryd.underlying67 Tryd.isAgg5 Tryd.sizeOf5 z i h w
@[go_sem] theorem bdB (w : World) : (Instr.build 67 #[]).run Tryd.prog w = .ok (.agg (arr .u8 256 fun _ => 0)) w := build_arr (by kernel_rfl) w

theorem iW : (Tryd.prog.info? 32).map (·.size) = some 256 := by kernel_rfl
@[go_sem] theorem zW (w : World) : (zeroValue 32).run Tryd.prog w = .ok (.agg (arr .u16 256 fun _ => 0)) w := zero_arr (by kernel_rfl) w
@[go_sem] theorem ixW (z : Nat → Int) (i : Nat) (w : World) (h : i < 256) : (Instr.index 32 (.agg (arr .u16 256 z)) (.int .i64 (i : Int))).run Tryd.prog w = .ok (.int .u16 (z i)) w :=
  run_index_arr Tryd.underlying32 Tryd.isAgg29 Tryd.sizeOf29 z i h w
@[go_sem] theorem bdW (w : World) : (Instr.build 32 #[]).run Tryd.prog w = .ok (.agg (arr .u16 256 fun _ => 0)) w := build_arr (by kernel_rfl) w

























def nstep (m c : Int) : Int := if (if m < c then c else m) < -c then -c else (if m < c then c else m)
/-- The greatest magnitude of the first k numbers, centred. -/
def normTo (z : Nat → Int) : Nat → Int
  | 0 => 0
  | k + 1 => nstep (normTo z k) (cen (z k) 8380417)
theorem nstep_le (m c b : Int) : b ≤ nstep m c ↔ b ≤ m ∨ b ≤ max c (-c) := by
  unfold nstep
  split <;> split <;> omega
theorem normTo_le (z : Nat → Int) (b : Int) (k : Nat) : b ≤ normTo z k ↔ b ≤ 0 ∨ ∃ i, i < k ∧ b ≤ max (cen (z i) 8380417) (-cen (z i) 8380417) := by
  induction k with
  | zero => simp [normTo]
  | succ k ih =>
    rw [normTo, nstep_le, ih]
    constructor
    · rintro ((h | ⟨i, hi, h⟩) | h)
      · exact .inl h
      · exact .inr ⟨i, by omega, h⟩
      · exact .inr ⟨k, by omega, h⟩
    · rintro (h | ⟨i, hi, h⟩)
      · exact .inl (.inl h)
      · by_cases e : i = k
        · subst e; exact .inr h
        · exact .inl (.inr ⟨i, by omega, h⟩)
theorem normTo_bd (z : Nat → Int) (k : Nat) : 0 ≤ normTo z k ∧ normTo z k ≤ 8380417 := by
  induction k with
  | zero => simp [normTo]
  | succ k ih =>
    obtain ⟨h1, h2⟩ := cen_bd (z k) 8380417 (by omega)
    rw [normTo]
    unfold nstep
    split <;> split <;> omega
theorem magn_nn (c : Int) : 0 ≤ max c (-c) := by omega





end Go.Proofs.YteigpbeamdhjpaaDoor
