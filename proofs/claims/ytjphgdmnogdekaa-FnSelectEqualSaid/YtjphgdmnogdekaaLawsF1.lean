/-
  The laws on single numbers: each walk returns true. First what 'reduced' and 'shifted' of the laws tell.
-/
import Derived.Test.YtjphgdmnogdekaaField
import Derived.Below
import Derived.Deep.WholeRow
namespace Go.Proofs.Ytjphgdmnogdekaa
open Go.RowKit

set_option maxHeartbeats 400000 in
theorem lwReduced (b off n c : Nat) (zs : List Int) (w : World) (hl : zs.length = n) (hn : n < 4611686018427387904)
    (hc : ∀ j, j < n → w.cell? ⟨b, off + j, none⟩ = some (.int .u32 (zs.getD j 0))) :
    Calls Try.prog 15 #[.slice (some ⟨b, off, none⟩) n c] w fun e w' => e = .returned (.bool (zs.all fun z => decide (z < 8380417))) ∧ w = w' := by
  have HL := Lib.hid hl; clear hl
  have HC := Lib.hid hc; clear hc
  go_enter Try.func15, Try.ntmps15
  go_wp2
  go_loop [7] (fun i => ∃ k : Nat, k ≤ n ∧ i = .int .i64 k ∧ Hid (∀ j, j < k → zs.getD j 0 < 8380417)) (fun i => n - (intOf i).toNat)
  case atStart => exact ⟨0, Nat.zero_le _, rfl, Lib.hid (fun j hj => by omega)⟩
  case round =>
    obtain ⟨k, hk, rfl, hall⟩ := hrel
    by_cases hlt : k < n
    · have hcell := HC.out k hlt
      obtain ⟨z, hz⟩ : ∃ z, z = zs.getD k 0 := ⟨_, rfl⟩
      rw [← hz] at hcell
      have HZ := Lib.hid hz; clear hz
      by_cases hzq : z < 8380417
      · go_wp2
        go_round
        case rel => exact ⟨k + 1, by omega, by go_num, Lib.hid (fun j hj => by
          by_cases e : j = k
          · subst e; rw [← HZ.out]; exact hzq
          · exact hall.out j (by omega))⟩
        case measure => simp [intOf]; omega
      · go_wp2
        go_ret
        refine ⟨ret_bool ?_, rfl⟩
        symm
        rw [List.all_eq_false]
        have hkl : k < zs.length := by rw [HL.out]; exact hlt
        refine ⟨zs[k], List.getElem_mem hkl, ?_⟩
        have : zs[k] = z := by rw [HZ.out]; simp [List.getD, List.getElem?_eq_getElem hkl]
        rw [this]; simp; omega
    · go_wp2
      go_ret
      refine ⟨ret_bool ?_, rfl⟩
      symm
      rw [List.all_eq_true]
      intro x hx
      obtain ⟨j, hj, rfl⟩ := List.getElem_of_mem hx
      have := hall.out j (by rw [HL.out] at hj; omega)
      simpa [List.getD, List.getElem?_eq_getElem hj] using this

theorem lwShifted (x n : Int) (w : World) (h0 : 0 ≤ x) (h1 : x < 8380417) (n0 : 0 ≤ n) (n1 : n < 9223372036854775808) (he : x * 4294967296 % 8380417 = n % 8380417) :
    Calls Try.prog 18 #[.int .u32 x, .int .i64 n] w fun e w' => e = .returned (.bool true) ∧ w = w' := by
  have hb : (x * 4294967296 % 8380417 == n % 8380417) = true := by simp [he]
  clear he
  go_enter Try.func18, Try.ntmps18
  go_wp2
  go_ret
  exact ⟨rfl, rfl⟩

/-- 'reduced' over a list that was just laid. -/
theorem lwReducedNew (zs : List Int) (t : TypeId) (w : World) (hn : zs.length < 4611686018427387904) :
    Calls Try.prog 15 #[.slice (some ⟨w.heap.size, 0, none⟩) zs.length zs.length] (w.alloc (.cells (zs.map (Value.int .u32)).toArray t)) fun e w' => e = .returned (.bool (zs.all fun z => decide (z < 8380417))) ∧ w.alloc (.cells (zs.map (Value.int .u32)).toArray t) = w' := by
  refine lwReduced _ _ _ _ zs _ rfl hn (fun j hj => ?_)
  rw [Nat.zero_add, cell_of_row _ _ j _ t (0, 0) (heap_alloc_last w _)]
  simp [List.getD, List.getElem?_eq_getElem hj]

theorem walkFnAdd (a b : Int) (w : World) (a0 : 0 ≤ a) (a1 : a < 4294967296) (b0 : 0 ≤ b) (b1 : b < 4294967296) :
    Calls Try.prog 3 #[.int .u32 a, .int .u32 b] w fun e w' => e = .returned (.bool true) ∧ Below w.heap.size w w' := by
  go_enter Try.func3, Try.ntmps3
  go_wp2_with fail
  refine (lwReducedNew [a, b] _ w (by simp)).mono ?_
  rintro e w' ⟨rfl, rfl⟩
  by_cases h : a < 8380417 ∧ b < 8380417
  · obtain ⟨ha, hb⟩ := h
    rw [show ([a, b].all fun z => decide (z < 8380417)) = true from by simp [ha, hb]]
    go_wp2_with (first | (go_at_call 45; refine (fieldAdd _ _ _ a0 ha b0 hb).mono ?_; rintro e w' ⟨rfl, rfl⟩) | go_in)
    go_ret
    exact ⟨rfl, (Below.refl _ _).alloc (Nat.le_refl _) _⟩
  · rw [show ([a, b].all fun z => decide (z < 8380417)) = false from by simp; omega]
    go_wp2_with fail
    go_ret
    exact ⟨rfl, (Below.refl _ _).alloc (Nat.le_refl _) _⟩

theorem walkFnSub (a b : Int) (w : World) (a0 : 0 ≤ a) (a1 : a < 4294967296) (b0 : 0 ≤ b) (b1 : b < 4294967296) :
    Calls Try.prog 4 #[.int .u32 a, .int .u32 b] w fun e w' => e = .returned (.bool true) ∧ Below w.heap.size w w' := by
  go_enter Try.func4, Try.ntmps4
  go_wp2_with fail
  refine (lwReducedNew [a, b] _ w (by simp)).mono ?_
  rintro e w' ⟨rfl, rfl⟩
  by_cases h : a < 8380417 ∧ b < 8380417
  · obtain ⟨ha, hb⟩ := h
    rw [show ([a, b].all fun z => decide (z < 8380417)) = true from by simp [ha, hb]]
    go_wp2_with (first | (go_at_call 46; refine (fieldSub _ _ _ a0 ha b0 hb).mono ?_; rintro e w' ⟨rfl, rfl⟩) | go_in)
    go_ret
    exact ⟨rfl, (Below.refl _ _).alloc (Nat.le_refl _) _⟩
  · rw [show ([a, b].all fun z => decide (z < 8380417)) = false from by simp; omega]
    go_wp2_with fail
    go_ret
    exact ⟨rfl, (Below.refl _ _).alloc (Nat.le_refl _) _⟩

theorem walkFnMontgomeryMul (a b : Int) (w : World) (a0 : 0 ≤ a) (a1 : a < 4294967296) (b0 : 0 ≤ b) (b1 : b < 4294967296) :
    Calls Try.prog 5 #[.int .u32 a, .int .u32 b] w fun e w' => e = .returned (.bool true) ∧ Below w.heap.size w w' := by
  go_enter Try.func5, Try.ntmps5
  go_wp2_with fail
  refine (lwReducedNew [a, b] _ w (by simp)).mono ?_
  rintro e w' ⟨rfl, rfl⟩
  by_cases h : a < 8380417 ∧ b < 8380417
  · obtain ⟨ha, hb⟩ := h
    obtain ⟨hp0, hp1⟩ := prod_lt a b 8380416 8380416 a0 (by omega) b0 (by omega)
    rw [show ([a, b].all fun z => decide (z < 8380417)) = true from by simp [ha, hb]]
    go_wp2_with (first | (go_at_call 47; refine (fieldMul _ _ _ a0 (by omega) b0 hb).mono ?_; rintro e w' ⟨rfl, rfl⟩) | (go_at_call 18; refine (lwShifted _ _ _ (mred_lo _) (mred_hi _) (by omega) (by omega) (mred_shift _)).mono ?_; rintro e w' ⟨rfl, rfl⟩) | go_in)
    go_ret
    exact ⟨rfl, (Below.refl _ _).alloc (Nat.le_refl _) _⟩
  · rw [show ([a, b].all fun z => decide (z < 8380417)) = false from by simp; omega]
    go_wp2_with fail
    go_ret
    exact ⟨rfl, (Below.refl _ _).alloc (Nat.le_refl _) _⟩

theorem walkFnMontgomeryMulSub (a b c : Int) (w : World) (a0 : 0 ≤ a) (a1 : a < 4294967296) (b0 : 0 ≤ b) (b1 : b < 4294967296) (c0 : 0 ≤ c) (c1 : c < 4294967296) :
    Calls Try.prog 6 #[.int .u32 a, .int .u32 b, .int .u32 c] w fun e w' => e = .returned (.bool true) ∧ Below w.heap.size w w' := by
  go_enter Try.func6, Try.ntmps6
  go_wp2_with fail
  refine (lwReducedNew [a, b, c] _ w (by simp)).mono ?_
  rintro e w' ⟨rfl, rfl⟩
  by_cases h : a < 8380417 ∧ b < 8380417 ∧ c < 8380417
  · obtain ⟨ha, hb, hc⟩ := h
    obtain ⟨hp0, hp1⟩ := prod_lt a (b + 8380417 - c) 8380416 16760833 a0 (by omega) (by omega) (by omega)
    rw [show ([a, b, c].all fun z => decide (z < 8380417)) = true from by simp [ha, hb, hc]]
    go_wp2_with (first | (go_at_call 48; refine (fieldMulSub _ _ _ _ a0 ha b0 hb c0 hc).mono ?_; rintro e w' ⟨rfl, rfl⟩) | (go_at_call 18; refine (lwShifted _ _ _ (mred_lo _) (mred_hi _) (by omega) (by omega) (mred_shift _)).mono ?_; rintro e w' ⟨rfl, rfl⟩) | go_in)
    go_ret
    exact ⟨rfl, (Below.refl _ _).alloc (Nat.le_refl _) _⟩
  · rw [show ([a, b, c].all fun z => decide (z < 8380417)) = false from by simp; omega]
    go_wp2_with fail
    go_ret
    exact ⟨rfl, (Below.refl _ _).alloc (Nat.le_refl _) _⟩

theorem walkFnMontgomeryAddMul (a b c d : Int) (w : World) (a0 : 0 ≤ a) (a1 : a < 4294967296) (b0 : 0 ≤ b) (b1 : b < 4294967296) (c0 : 0 ≤ c) (c1 : c < 4294967296) (d0 : 0 ≤ d) (d1 : d < 4294967296) :
    Calls Try.prog 7 #[.int .u32 a, .int .u32 b, .int .u32 c, .int .u32 d] w fun e w' => e = .returned (.bool true) ∧ Below w.heap.size w w' := by
  go_enter Try.func7, Try.ntmps7
  go_wp2_with fail
  refine (lwReducedNew [a, b, c, d] _ w (by simp)).mono ?_
  rintro e w' ⟨rfl, rfl⟩
  by_cases h : a < 8380417 ∧ b < 8380417 ∧ c < 8380417 ∧ d < 8380417
  · obtain ⟨ha, hb, hc, hd⟩ := h
    obtain ⟨hp0, hp1⟩ := prod_lt a b 8380416 8380416 a0 (by omega) b0 (by omega)
    obtain ⟨hq0, hq1⟩ := prod_lt c d 8380416 8380416 c0 (by omega) d0 (by omega)
    rw [show ([a, b, c, d].all fun z => decide (z < 8380417)) = true from by simp [ha, hb, hc, hd]]
    go_wp2_with (first | (go_at_call 49; refine (fieldAddMul _ _ _ _ _ a0 ha b0 hb c0 hc d0 hd).mono ?_; rintro e w' ⟨rfl, rfl⟩) | (go_at_call 18; refine (lwShifted _ _ _ (mred_lo _) (mred_hi _) (by omega) (by omega) (mred_shift _)).mono ?_; rintro e w' ⟨rfl, rfl⟩) | go_in)
    go_ret
    exact ⟨rfl, (Below.refl _ _).alloc (Nat.le_refl _) _⟩
  · rw [show ([a, b, c, d].all fun z => decide (z < 8380417)) = false from by simp; omega]
    go_wp2_with fail
    go_ret
    exact ⟨rfl, (Below.refl _ _).alloc (Nat.le_refl _) _⟩

theorem walkFnFromMontgomery (a : Int) (w : World) (a0 : 0 ≤ a) (a1 : a < 4294967296) :
    Calls Try.prog 10 #[.int .u32 a] w fun e w' => e = .returned (.bool true) ∧ Below w.heap.size w w' := by
  go_enter Try.func10, Try.ntmps10
  go_wp2_with fail
  refine (lwReducedNew [a] _ w (by simp)).mono ?_
  rintro e w' ⟨rfl, rfl⟩
  by_cases h : a < 8380417
  · have ha := h
    have hm0 := mred_lo a
    have hm1 := mred_hi a
    rw [show ([a].all fun z => decide (z < 8380417)) = true from by simp [ha]]
    go_wp2_with (first | (go_at_call 52; refine (fromMont _ _ a0 a1).mono ?_; rintro e w' ⟨rfl, rfl⟩) | (go_at_call 25; refine (spPlain _ _ a0 a1).mono ?_; rintro e w' ⟨rfl, rfl⟩) | go_in)
    go_ret
    exact ⟨rfl, (Below.refl _ _).alloc (Nat.le_refl _) _⟩
  · rw [show ([a].all fun z => decide (z < 8380417)) = false from by simp; omega]
    go_wp2_with fail
    go_ret
    exact ⟨rfl, (Below.refl _ _).alloc (Nat.le_refl _) _⟩

theorem walkFnSubToMontgomery (a b : Int) (w : World) (a0 : 0 ≤ a) (a1 : a < 4294967296) (b0 : 0 ≤ b) (b1 : b < 4294967296) :
    Calls Try.prog 11 #[.int .u32 a, .int .u32 b] w fun e w' => e = .returned (.bool true) ∧ Below w.heap.size w w' := by
  go_enter Try.func11, Try.ntmps11
  go_wp2_with fail
  refine (lwReducedNew [a, b] _ w (by simp)).mono ?_
  rintro e w' ⟨rfl, rfl⟩
  by_cases h : a < 8380417 ∧ b < 8380417
  · obtain ⟨ha, hb⟩ := h
    rw [show ([a, b].all fun z => decide (z < 8380417)) = true from by simp [ha, hb]]
    go_wp2_with (first | (go_at_call 53; refine (subToMont _ _ _ a0 ha b0 hb).mono ?_; rintro e w' ⟨rfl, rfl⟩) | (go_at_call 27; refine (spMont _ _ (by omega) (by omega)).mono ?_; rintro e w' ⟨rfl, rfl⟩) | go_in)
    go_ret
    exact ⟨rfl, (Below.refl _ _).alloc (Nat.le_refl _) _⟩
  · rw [show ([a, b].all fun z => decide (z < 8380417)) = false from by simp; omega]
    go_wp2_with fail
    go_ret
    exact ⟨rfl, (Below.refl _ _).alloc (Nat.le_refl _) _⟩

theorem walkFnMontgomeryReduce (a : Int) (w : World) (a0 : 0 ≤ a) (a1 : a < 18446744073709551616) :
    Calls Try.prog 8 #[.int .u64 a] w fun e w' => e = .returned (.bool true) ∧ Below w.heap.size w w' := by
  have A1 := Lib.hid a1; clear a1
  by_cases h : a < 35993616941842432
  · go_enter Try.func8, Try.ntmps8
    go_wp2_with (first | (go_at_call 50; refine (montReduce _ _ a0 h).mono ?_; rintro e w' ⟨rfl, rfl⟩) | (go_at_call 18; refine (lwShifted _ _ _ (mred_lo _) (mred_hi _) (by omega) (by omega) (mred_shift _)).mono ?_; rintro e w' ⟨rfl, rfl⟩) | go_in)
    go_ret
    exact ⟨rfl, Below.refl _ _⟩
  · go_enter Try.func8, Try.ntmps8
    go_wp2_with fail
    go_ret
    exact ⟨rfl, Below.refl _ _⟩

theorem walkFnReduceOnce (a : Int) (w : World) (a0 : 0 ≤ a) (a1 : a < 4294967296) :
    Calls Try.prog 9 #[.int .u32 a] w fun e w' => e = .returned (.bool true) ∧ Below w.heap.size w w' := by
  by_cases h : a < 16760834
  · go_enter Try.func9, Try.ntmps9
    go_wp2_with (first | (go_at_call 51; refine (reduceOnce _ _ a0 h).mono ?_; rintro e w' ⟨rfl, rfl⟩) | go_in)
    go_ret
    exact ⟨rfl, Below.refl _ _⟩
  · go_enter Try.func9, Try.ntmps9
    go_wp2_with fail
    go_ret
    exact ⟨rfl, Below.refl _ _⟩

theorem walkFnAbs (a : Int) (w : World) (a0 : -2147483648 ≤ a) (a1 : a < 2147483648) :
    Calls Try.prog 12 #[.int .i32 a] w fun e w' => e = .returned (.bool true) ∧ Below w.heap.size w w' := by
  by_cases h : 0 ≤ a
  · have hm : max a (-a) = a := by omega
    go_enter Try.func12, Try.ntmps12
    go_wp2_with (first | (go_at_call 54; refine (ctAbs _ _ a0 a1).mono ?_; rintro e w' ⟨rfl, rfl⟩; rw [if_pos h]) | go_in)
    go_ret
    exact ⟨rfl, Below.refl _ _⟩
  · have hm : max a (-a) = -a := by omega
    go_enter Try.func12, Try.ntmps12
    go_wp2_with (first | (go_at_call 54; refine (ctAbs _ _ a0 a1).mono ?_; rintro e w' ⟨rfl, rfl⟩; rw [if_neg h]) | go_in)
    go_ret
    exact ⟨rfl, Below.refl _ _⟩

theorem walkFnSelectEqual (a b c d : Int) (w : World) (a0 : 0 ≤ a) (a1 : a < 4294967296) (b0 : 0 ≤ b) (b1 : b < 4294967296) (c0 : 0 ≤ c) (c1 : c < 4294967296) (d0 : 0 ≤ d) (d1 : d < 4294967296) :
    Calls Try.prog 14 #[.int .u32 a, .int .u32 b, .int .u32 c, .int .u32 d] w fun e w' => e = .returned (.bool true) ∧ Below w.heap.size w w' := by
  by_cases h : a = b
  · subst h
    go_enter Try.func14, Try.ntmps14
    go_wp2_with (first | (go_at_call 56; refine (selEq _ _ _ _ _ a0 a1 b0 b1 c0 c1 d0 d1).mono ?_; rintro e w' ⟨rfl, rfl⟩; rw [if_pos rfl]) | go_in)
    go_ret
    exact ⟨rfl, Below.refl _ _⟩
  · have hb : (a == b) = false := by simp [h]
    go_enter Try.func14, Try.ntmps14
    go_wp2_with (first | (go_at_call 56; refine (selEq _ _ _ _ _ a0 a1 b0 b1 c0 c1 d0 d1).mono ?_; rintro e w' ⟨rfl, rfl⟩; rw [if_neg h]) | go_in)
    go_ret
    exact ⟨rfl, Below.refl _ _⟩

set_option maxHeartbeats 1000000 in
theorem walkFnSelectLessOrEqual (a b c d : Int) (w : World) (a0 : -2147483648 ≤ a) (a1 : a < 2147483648) (b0 : -2147483648 ≤ b) (b1 : b < 2147483648) (c0 : -2147483648 ≤ c) (c1 : c < 2147483648) (d0 : -2147483648 ≤ d) (d1 : d < 2147483648) :
    Calls Try.prog 13 #[.int .i32 a, .int .i32 b, .int .i32 c, .int .i32 d] w fun e w' => e = .returned (.bool true) ∧ Below w.heap.size w w' := by
  go_enter Try.func13, Try.ntmps13
  go_wp2_with fail
  go_loop [18, 10] (fun i x => ∃ k : Nat, k ≤ 4 ∧ i = .int .i64 k) (fun i _ => 4 - (intOf i).toNat)
  case atStart => exact ⟨0, Nat.zero_le _, rfl⟩
  case round =>
    obtain ⟨k, hk, rfl⟩ := hrel
    by_cases hlt : k < 4
    · obtain ⟨z, hz, z0, z1⟩ : ∃ z, (w.alloc (.cells #[.int .i32 a, .int .i32 b, .int .i32 c, .int .i32 d] 21)).cell? ⟨w.heap.size, k, none⟩ = some (.int .i32 z) ∧ -2147483648 ≤ z ∧ z < 2147483648 := by
        rw [cell_of_row _ _ k _ 21 (0, 0) (heap_alloc_last w _)]
        match k, hlt with
        | 0, _ => exact ⟨a, rfl, a0, a1⟩
        | 1, _ => exact ⟨b, rfl, b0, b1⟩
        | 2, _ => exact ⟨c, rfl, c0, c1⟩
        | 3, _ => exact ⟨d, rfl, d0, d1⟩
      by_cases hzz : z ≤ -1073741824
      · go_wp2_with fail
        go_ret
        exact ⟨rfl, (Below.refl _ _).alloc (Nat.le_refl _) _⟩
      · by_cases hzy : 1073741824 ≤ z
        · go_wp2_with fail
          go_ret
          exact ⟨rfl, (Below.refl _ _).alloc (Nat.le_refl _) _⟩
        · go_wp2_with fail
          go_round
          case rel => exact ⟨k + 1, by omega, by go_num⟩
          case measure => simp [intOf]; omega
    · by_cases hab : a ≤ b
      · go_wp2_with (first | (go_at_call 55; refine (selLE _ _ _ _ _ a0 a1 b0 b1 c0 c1 d0 d1).mono ?_; rintro e w' ⟨rfl, rfl⟩; rw [if_pos hab]) | go_in)
        go_ret
        exact ⟨rfl, (Below.refl _ _).alloc (Nat.le_refl _) _⟩
      · go_wp2_with (first | (go_at_call 55; refine (selLE _ _ _ _ _ a0 a1 b0 b1 c0 c1 d0 d1).mono ?_; rintro e w' ⟨rfl, rfl⟩; rw [if_neg hab]) | go_in)
        go_ret
        exact ⟨rfl, (Below.refl _ _).alloc (Nat.le_refl _) _⟩
end Go.Proofs.Ytjphgdmnogdekaa
