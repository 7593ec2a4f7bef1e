/-
  FnToMontgomery, FnMontgomeryBack, FnCoeffFromHalfByte.
-/
import Derived.Test.YtojhecmdkpcceaaDoorField
import Derived.Test.YtojhecmdkpcceaaDoorReduced
import Derived.Test.YtojhecmdkpcceaaDoorSets
namespace Go.Proofs.YtojhecmdkpcceaaDoor
open Go.RowKit

theorem toMontBad (a : Int) (w : World) (hE : GErr w 0) (a0 : 8380417 ≤ a) :
    Calls Tryd.prog 21 #[.int .u32 a] w fun e w' => (∃ u v, e = .returned (.tuple #[.int .u32 0, .iface u v])) ∧ Below w.heap.size w w' := by
  obtain ⟨u, v, hE⟩ := hE
  go_enter Tryd.func21, Tryd.ntmps21
  go_wp2_with fail
  go_quiet (fail)
  go_wp2
  go_ret2
  exact ⟨⟨u, v, rfl⟩, below_drew0 _⟩

theorem implToMont (a : Int) (w : World) (a0 : 0 ≤ a) (a1 : a < 8380417) :
    Calls Tryd.prog 6 #[.int .u32 a] w fun e w' => e = .returned (.tuple #[.int .u32 (a * 4193792 % 8380417), .bool true]) ∧ Below w.heap.size w w' := by
  go_enter Tryd.func6, Tryd.ntmps6
  go_wp2_with (first | (go_at_call 21; refine (toMont _ _ a0 a1).mono ?_; rintro e w' ⟨rfl, rfl⟩) | go_in)
  go_quiet (fail)
  go_wp2
  go_ret2
  exact ⟨rfl, below_drew0 _⟩
theorem implToMontBad (a : Int) (w : World) (hE : GErr w 0) (a0 : 8380417 ≤ a) :
    Calls Tryd.prog 6 #[.int .u32 a] w fun e w' => e = .returned (.tuple #[.int .u32 0, .bool false]) ∧ Below w.heap.size w w' := by
  go_enter Tryd.func6, Tryd.ntmps6
  go_wp2_with (first | (go_at_call 21; refine (toMontBad _ _ hE a0).mono ?_; rintro e w' ⟨⟨u, v, rfl⟩, hb⟩) | go_in)
  go_quiet (fail)
  go_wp2
  go_ret2
  exact ⟨rfl, below_drewM hb _⟩

theorem walkFnToMontgomery (a : Int) (w : World) (hE : GErr w 0) (a0 : 0 ≤ a) (a1 : a < 4294967296) :
    Calls Tryd.prog 3 #[.int .u32 a] w fun e w' => e = .returned (.bool true) ∧ Below w.heap.size w w' := by
  by_cases h : a < 8380417
  · go_enter Tryd.func3, Tryd.ntmps3
    go_wp2_with (go_at_call 6; refine (implToMont _ _ a0 h).mono ?_; rintro e w1 ⟨rfl, hb⟩)
    refine (lwReducedNew [a] _ w1 (by simp)).mono ?_
    rintro e w' ⟨rfl, rfl⟩
    rw [show ([a].all fun z => decide (z < 8380417)) = true from by simp [h]]
    go_wp2_with (go_at_call 8; refine (spMont _ _ (by omega) (by omega)).mono ?_; rintro e w' ⟨rfl, rfl⟩)
    go_ret
    exact ⟨rfl, hb.alloc hb.size _⟩
  · go_enter Tryd.func3, Tryd.ntmps3
    go_wp2_with (go_at_call 6; refine (implToMontBad _ _ hE (by omega)).mono ?_; rintro e w1 ⟨rfl, hb⟩)
    refine (lwReducedNew [a] _ w1 (by simp)).mono ?_
    rintro e w' ⟨rfl, rfl⟩
    rw [show ([a].all fun z => decide (z < 8380417)) = false from by simp; omega]
    go_wp2_with fail
    go_ret
    exact ⟨rfl, hb.alloc hb.size _⟩

theorem walkFnMontgomeryBack (a : Int) (w : World) (_hE : GErr w 0) (a0 : 0 ≤ a) (a1 : a < 4294967296) :
    Calls Tryd.prog 4 #[.int .u32 a] w fun e w' => e = .returned (.bool true) ∧ Below w.heap.size w w' := by
  go_enter Tryd.func4, Tryd.ntmps4
  go_wp2_with fail
  refine (lwReducedNew [a] _ w (by simp)).mono ?_
  rintro e w' ⟨rfl, rfl⟩
  by_cases h : a < 8380417
  · rw [show ([a].all fun z => decide (z < 8380417)) = true from by simp [h]]
    have hb : mred (a * 4193792 % 8380417) = a := by unfold mred; omega
    go_wp2_with (first | (go_at_call 6; refine (implToMont _ _ a0 h).mono ?_; rintro e w1 ⟨rfl, hb1⟩) | (go_at_call 22; refine (fromMont _ _ (by omega) (by omega)).mono ?_; rintro e w' ⟨rfl, rfl⟩; rw [hb]) | go_in)
    go_ret
    exact ⟨rfl, belowChain ((Below.refl _ _).alloc (Nat.le_refl _) _) hb1 (by simp)⟩
  · rw [show ([a].all fun z => decide (z < 8380417)) = false from by simp; omega]
    go_wp2_with fail
    go_ret
    exact ⟨rfl, (Below.refl _ _).alloc (Nat.le_refl _) _⟩

/-- The number that four bits tell. -/
def halfV (s : Nat) (b : Int) : Int := if s = 1 then 4 - b else 2 - b % 5
def halfOk (s : Nat) (b : Int) : Bool := if s = 1 then decide (b < 9) else decide (b < 15)

theorem spHalfByte (s : Nat) (b : Int) (w : World) (hs : s < 3) (b0 : 0 ≤ b) (b1 : b < 16) :
    Calls Tryd.prog 12 #[.int .i64 b, .int .i64 (ss s 2)] w fun e w' => e = .returned (.tuple #[.int .i64 (halfV s b % 8380417), .bool (halfOk s b)]) ∧ w = w' := by
  have h3 : s = 0 ∨ s = 1 ∨ s = 2 := by omega
  clear hs
  rcases h3 with rfl | rfl | rfl
  all_goals
    simp only [ss, halfV, halfOk, List.getD, List.getElem?_cons_succ, List.getElem?_cons_zero, Option.getD_some]
    go_enter Tryd.func12, Tryd.ntmps12
    go_wp2_with (go_at_call 14; refine (spMod _ _ (by omega) (by omega)).mono ?_; rintro e w' ⟨rfl, rfl⟩)
    go_ret2
    exact ⟨rfl, rfl⟩

/-- A parameter's field, of a block. -/
theorem coeffHalf (s : Nat) (b : Int) (w : World) (hs : s < 3) (b0 : 0 ≤ b) (b1 : b < 16) :
    Calls Tryd.prog 23 #[.int .u8 b, .agg (arr .i64 8 (ps s))] w fun e w' => (∃ x, e = .returned (.tuple #[.int .u32 x, .bool (halfOk s b)]) ∧ (halfOk s b = true → x = halfV s b * 4193792 % 8380417)) ∧ Below w.heap.size w w' := by
  have h3 : s = 0 ∨ s = 1 ∨ s = 2 := by omega
  clear hs
  rcases h3 with rfl | rfl | rfl
  · have hf := Blk.cellv (Blk.new w .i64 8 (ps 0) 50 rfl) 2 2 (by omega) rfl
    by_cases hb : b < 15
    · have ho : halfOk 0 b = true := by simp [halfOk, hb]
      rw [ho]
      go_enter Tryd.func23, Tryd.ntmps23
      go_wp2_with (go_at_call 27; refine (subToMont _ _ _ (by omega) (by omega) (by omega) (by omega)).mono ?_; rintro e w' ⟨rfl, rfl⟩)
      go_ret2
      exact ⟨⟨_, rfl, fun _ => by simp only [halfV]; first | rfl | (rw [show b - b * 13108 / 65536 * 5 = b % 5 from by omega]; rfl)⟩, (Below.refl _ _).alloc (Nat.le_refl _) _⟩
    · have ho : halfOk 0 b = false := by simp [halfOk]; omega
      rw [ho]
      go_enter Tryd.func23, Tryd.ntmps23
      go_wp2
      go_ret2
      exact ⟨(by first | exact ⟨_, rfl⟩ | exact ⟨_, rfl, fun h => by cases h⟩), (Below.refl _ _).alloc (Nat.le_refl _) _⟩
  · have hf := Blk.cellv (Blk.new w .i64 8 (ps 1) 50 rfl) 2 4 (by omega) rfl
    by_cases hb : b < 9
    · have ho : halfOk 1 b = true := by simp [halfOk, hb]
      rw [ho]
      go_enter Tryd.func23, Tryd.ntmps23
      go_wp2_with (go_at_call 27; refine (subToMont _ _ _ (by omega) (by omega) (by omega) (by omega)).mono ?_; rintro e w' ⟨rfl, rfl⟩)
      go_ret2
      exact ⟨⟨_, rfl, fun _ => by simp only [halfV]; first | rfl | (rw [show b - b * 13108 / 65536 * 5 = b % 5 from by omega]; rfl)⟩, (Below.refl _ _).alloc (Nat.le_refl _) _⟩
    · have ho : halfOk 1 b = false := by simp [halfOk]; omega
      rw [ho]
      go_enter Tryd.func23, Tryd.ntmps23
      go_wp2
      go_ret2
      exact ⟨(by first | exact ⟨_, rfl⟩ | exact ⟨_, rfl, fun h => by cases h⟩), (Below.refl _ _).alloc (Nat.le_refl _) _⟩
  · have hf := Blk.cellv (Blk.new w .i64 8 (ps 2) 50 rfl) 2 2 (by omega) rfl
    by_cases hb : b < 15
    · have ho : halfOk 2 b = true := by simp [halfOk, hb]
      rw [ho]
      go_enter Tryd.func23, Tryd.ntmps23
      go_wp2_with (go_at_call 27; refine (subToMont _ _ _ (by omega) (by omega) (by omega) (by omega)).mono ?_; rintro e w' ⟨rfl, rfl⟩)
      go_ret2
      exact ⟨⟨_, rfl, fun _ => by simp only [halfV]; first | rfl | (rw [show b - b * 13108 / 65536 * 5 = b % 5 from by omega]; rfl)⟩, (Below.refl _ _).alloc (Nat.le_refl _) _⟩
    · have ho : halfOk 2 b = false := by simp [halfOk]; omega
      rw [ho]
      go_enter Tryd.func23, Tryd.ntmps23
      go_wp2
      go_ret2
      exact ⟨(by first | exact ⟨_, rfl⟩ | exact ⟨_, rfl, fun h => by cases h⟩), (Below.refl _ _).alloc (Nat.le_refl _) _⟩

theorem implCoeffHalf (s : Nat) (b : Int) (w : World) (hp : Par w) (hs : s < 3) (b0 : 0 ≤ b) (b1 : b < 16) :
    Calls Tryd.prog 11 #[.int .i64 (nm s), .int .u8 b] w fun e w' => (∃ x, e = .returned (.tuple #[.int .u32 x, .bool (halfOk s b)]) ∧ (halfOk s b = true → x = halfV s b * 4193792 % 8380417)) ∧ Below w.heap.size w w' := by
  go_enter Tryd.func11, Tryd.ntmps11
  go_wp2_with (first | (go_at_call 24; refine (zzSet s _ hs hp).mono ?_; rintro e w1 ⟨rfl, hb1⟩) | (go_at_call 23; refine (coeffHalf s _ _ hs b0 b1).mono ?_; rintro e w2 ⟨⟨x, rfl, hx⟩, hb2⟩) | go_in)
  go_ret2
  exact ⟨⟨x, rfl, hx⟩, belowChain hb1 hb2 hb1.size⟩

theorem walkFnCoeffFromHalfByte (n b : Int) (w : World) (hp : Par w) (n0 : 0 ≤ n) (n1 : n < 256) (b0 : 0 ≤ b) (b1 : b < 256) :
    Calls Tryd.prog 5 #[.int .u8 n, .int .u8 b] w fun e w' => e = .returned (.bool true) ∧ Below w.heap.size w w' := by
  by_cases h : b ≤ 15
  · obtain ⟨s, hs⟩ : ∃ s : Nat, (s : Int) = n % 3 := ⟨(n % 3).toNat, by omega⟩
    have hs3 : s < 3 := by omega
    go_enter Tryd.func5, Tryd.ntmps5
    go_wp2_with (first | (go_at_call 10; refine (lwSet _ s _ n0 n1 hs).mono ?_; rintro e w1 ⟨rfl, hb1⟩; have hr := (Blk.zeros8 w1 30 rfl).row .i64 (ss s); have hB := below_setRow (hb1.alloc hb1.size (.cells #[.int .i64 0, .int .i64 0, .int .i64 0, .int .i64 0, .int .i64 0, .int .i64 0, .int .i64 0, .int .i64 0] 30)) hb1.size (arr .i64 8 (ss s))) | (with_reducible refine at_store 30 _ _ rfl ?_; refine wpList_store_arr iSet rfl _ _ rfl _ rfl rfl (Blk.zeros8 _ _ rfl) ?_) | (go_at_call 11; refine (implCoeffHalf s _ _ (hp.below hB) hs3 b0 (by omega)).mono ?_; rintro e w2 ⟨⟨x, rfl, hx⟩, hb2⟩; have hf := (hr.below hb2).cellv 2 _ (by omega) rfl) | (go_at_call 12; refine (spHalfByte s _ _ hs3 b0 (by omega)).mono ?_; rintro e w3 ⟨rfl, rfl⟩))
    · have ht : halfOk s b = true := by assumption
      obtain rfl := hx ht
      refine (spMont _ _ (by omega) (by omega)).mono ?_
      rintro e w4 ⟨rfl, rfl⟩
      rw [show halfV s b % 8380417 * 4193792 % 8380417 = halfV s b * 4193792 % 8380417 from by omega]
      go_wp2
      go_ret
      exact ⟨rfl, belowChain hB hb2 hB.size⟩
    · go_ret
      exact ⟨rfl, belowChain hB hb2 hB.size⟩
  · go_enter Tryd.func5, Tryd.ntmps5
    go_wp2
    go_ret
    exact ⟨rfl, Below.refl _ _⟩
end Go.Proofs.YtojhecmdkpcceaaDoor
