/-
  Contracts of the functions on whole polynomials: the thin package's conversions, sums, differences and products, the reference's own, and the laws' readings.
-/
import Derived.Test.YtkckbfjimlmjhaaReduced
import Derived.Test.YtkckbfjimlmjhaaRound
import Derived.Test.YtkckbfjimlmjhaaArr
import Derived.Test.YtkckbfjimlmjhaaRegion
namespace Go.Proofs.Ytkckbfjimlmjhaa
open Go.RowKit

theorem iR : (Try.prog.info? 39).map (·.size) = some 256 := by kernel_rfl
@[go_sem] theorem zR (w : World) : (zeroValue 39).run Try.prog w = .ok (.agg (arr .u32 256 fun _ => 0)) w := zero_arr (by kernel_rfl) w
@[go_sem] theorem ixR (z : Nat → Int) (i : Nat) (w : World) (h : i < 256) : (Instr.index 39 (.agg (arr .u32 256 z)) (.int .i64 (i : Int))).run Try.prog w = .ok (.int .u32 (z i)) w :=
  run_index_arr Try.underlying39 Try.isAgg37 Try.sizeOf37 z i h w
@[go_sem] theorem bdR (w : World) : (Instr.build 39 #[]).run Try.prog w = .ok (.agg (arr .u32 256 fun _ => 0)) w := build_arr (by kernel_rfl) w

theorem iN : (Try.prog.info? 44).map (·.size) = some 256 := by kernel_rfl
@[go_sem] theorem zN (w : World) : (zeroValue 44).run Try.prog w = .ok (.agg (arr .u32 256 fun _ => 0)) w := zero_arr (by kernel_rfl) w
@[go_sem] theorem ixN (z : Nat → Int) (i : Nat) (w : World) (h : i < 256) : (Instr.index 44 (.agg (arr .u32 256 z)) (.int .i64 (i : Int))).run Try.prog w = .ok (.int .u32 (z i)) w :=
  run_index_arr Try.underlying44 Try.isAgg37 Try.sizeOf37 z i h w
@[go_sem] theorem bdN (w : World) : (Instr.build 44 #[]).run Try.prog w = .ok (.agg (arr .u32 256 fun _ => 0)) w := build_arr (by kernel_rfl) w

theorem iU : (Try.prog.info? 23).map (·.size) = some 256 := by kernel_rfl
@[go_sem] theorem zU (w : World) : (zeroValue 23).run Try.prog w = .ok (.agg (arr .u32 256 fun _ => 0)) w := zero_arr (by kernel_rfl) w
@[go_sem] theorem ixU (z : Nat → Int) (i : Nat) (w : World) (h : i < 256) : (Instr.index 23 (.agg (arr .u32 256 z)) (.int .i64 (i : Int))).run Try.prog w = .ok (.int .u32 (z i)) w :=
  run_index_arr Try.underlying23 Try.isAgg22 Try.sizeOf22 z i h w
@[go_sem] theorem bdU (w : World) : (Instr.build 23 #[]).run Try.prog w = .ok (.agg (arr .u32 256 fun _ => 0)) w := build_arr (by kernel_rfl) w

theorem iP : (Try.prog.info? 25).map (·.size) = some 256 := by kernel_rfl
@[go_sem] theorem zP (w : World) : (zeroValue 25).run Try.prog w = .ok (.agg (arr .i64 256 fun _ => 0)) w := zero_arr (by kernel_rfl) w
@[go_sem] theorem ixP (z : Nat → Int) (i : Nat) (w : World) (h : i < 256) : (Instr.index 25 (.agg (arr .i64 256 z)) (.int .i64 (i : Int))).run Try.prog w = .ok (.int .i64 (z i)) w :=
  run_index_arr Try.underlying25 Try.isAgg3 Try.sizeOf3 z i h w
@[go_sem] theorem bdP (w : World) : (Instr.build 25 #[]).run Try.prog w = .ok (.agg (arr .i64 256 fun _ => 0)) w := build_arr (by kernel_rfl) w



set_option maxRecDepth 100000 in
set_option maxHeartbeats 1000000 in
theorem implRing (z : Nat → Int) (w : World) :
    Calls Try.prog 22 #[.agg (arr .u32 256 z)] w fun e w' => e = .returned (.agg (arr .u32 256 z)) ∧ Below w.heap.size w w' := by
  go_enter Try.func22, Try.ntmps22
  go_wp2_with (first | (with_reducible refine at_load 23 _ rfl ?_; refine wpList_load_arr Try.underlying23 iU rfl _ rfl _ rfl (((Blk.new w _ _ _ _ rfl).alloc _).alloc _) ?_))
  go_loopw [7] (fun i wr => ∃ k : Nat, k ≤ 256 ∧ i = .int .i64 k ∧ Below w.heap.size w wr ∧ Blk wr (w.heap.size + 1 + 1) .u32 256 (fun j => if j < k then z j else 0) 39 ∧ Blk wr (w.heap.size + 1) .u32 256 (fun _ => 0) 39) (fun i _ => 256 - (intOf i).toNat)
  case atStart => exact ⟨0, by omega, rfl, (((Below.refl _ _).alloc (Nat.le_refl _) _).alloc (by first | omega | (simp; done) | (simp; omega)) _).alloc (by first | omega | (simp; done) | (simp; omega)) _, (Blk.new _ _ _ _ _ (by first | omega | (simp; done) | (simp; omega))).start _, (Blk.new _ _ _ _ _ (by first | omega | (simp; done) | (simp; omega))).alloc _⟩
  case round =>
    obtain ⟨k, hk, rfl, hb, h2, h1⟩ := hrel
    by_cases hlt : k < 256
    · have hc := h2.cell hlt
      have hf := h2.frozen k
      go_wp2_with fail
      go_roundw
      case rel => exact ⟨k + 1, by omega, by go_num, hb.setCell (by first | omega | (simp; done) | (simp; omega)) _, h2.fill, h1.other _ _ (by first | omega | (simp; done) | (simp; omega))⟩
      case measure => simp [intOf]; omega
    · obtain rfl : k = 256 := by omega
      have h2 := h2.full
      go_wp2_with (first | (with_reducible refine at_load 39 _ rfl ?_; refine wpList_load_arr Try.underlying39 iR rfl _ rfl _ rfl (h2) ?_) | (with_reducible refine at_store 39 _ _ rfl ?_; refine wpList_store_arr iR rfl _ _ rfl _ rfl rfl (h1) ?_))
      exact bodyPost_ret (v := .agg (arr .u32 256 z)) (results_arr Try.underlying39 iR rfl _ _ _ rfl (h1.row _ _)) rfl ⟨rfl, below_setRow hb (by omega) _⟩

set_option maxRecDepth 100000 in
set_option maxHeartbeats 1000000 in
theorem implOfRing (z : Nat → Int) (w : World) :
    Calls Try.prog 20 #[.agg (arr .u32 256 z)] w fun e w' => e = .returned (.agg (arr .u32 256 z)) ∧ Below w.heap.size w w' := by
  go_enter Try.func20, Try.ntmps20
  go_wp2_with (first | (with_reducible refine at_load 39 _ rfl ?_; refine wpList_load_arr Try.underlying39 iR rfl _ rfl _ rfl (((Blk.new w _ _ _ _ rfl).alloc _).alloc _) ?_))
  go_loopw [7] (fun i wr => ∃ k : Nat, k ≤ 256 ∧ i = .int .i64 k ∧ Below w.heap.size w wr ∧ Blk wr (w.heap.size + 1 + 1) .u32 256 (fun j => if j < k then z j else 0) 23 ∧ Blk wr (w.heap.size + 1) .u32 256 (fun _ => 0) 23) (fun i _ => 256 - (intOf i).toNat)
  case atStart => exact ⟨0, by omega, rfl, (((Below.refl _ _).alloc (Nat.le_refl _) _).alloc (by first | omega | (simp; done) | (simp; omega)) _).alloc (by first | omega | (simp; done) | (simp; omega)) _, (Blk.new _ _ _ _ _ (by first | omega | (simp; done) | (simp; omega))).start _, (Blk.new _ _ _ _ _ (by first | omega | (simp; done) | (simp; omega))).alloc _⟩
  case round =>
    obtain ⟨k, hk, rfl, hb, h2, h1⟩ := hrel
    by_cases hlt : k < 256
    · have hc := h2.cell hlt
      have hf := h2.frozen k
      go_wp2_with fail
      go_roundw
      case rel => exact ⟨k + 1, by omega, by go_num, hb.setCell (by first | omega | (simp; done) | (simp; omega)) _, h2.fill, h1.other _ _ (by first | omega | (simp; done) | (simp; omega))⟩
      case measure => simp [intOf]; omega
    · obtain rfl : k = 256 := by omega
      have h2 := h2.full
      go_wp2_with (first | (with_reducible refine at_load 23 _ rfl ?_; refine wpList_load_arr Try.underlying23 iU rfl _ rfl _ rfl (h2) ?_) | (with_reducible refine at_store 23 _ _ rfl ?_; refine wpList_store_arr iU rfl _ _ rfl _ rfl rfl (h1) ?_))
      exact bodyPost_ret (v := .agg (arr .u32 256 z)) (results_arr Try.underlying23 iU rfl _ _ _ rfl (h1.row _ _)) rfl ⟨rfl, below_setRow hb (by omega) _⟩

set_option maxRecDepth 100000 in
set_option maxHeartbeats 1000000 in
theorem implTransform (z : Nat → Int) (w : World) :
    Calls Try.prog 28 #[.agg (arr .u32 256 z)] w fun e w' => e = .returned (.agg (arr .u32 256 z)) ∧ Below w.heap.size w w' := by
  go_enter Try.func28, Try.ntmps28
  go_wp2_with (first | (with_reducible refine at_load 23 _ rfl ?_; refine wpList_load_arr Try.underlying23 iU rfl _ rfl _ rfl (((Blk.new w _ _ _ _ rfl).alloc _).alloc _) ?_))
  go_loopw [7] (fun i wr => ∃ k : Nat, k ≤ 256 ∧ i = .int .i64 k ∧ Below w.heap.size w wr ∧ Blk wr (w.heap.size + 1 + 1) .u32 256 (fun j => if j < k then z j else 0) 44 ∧ Blk wr (w.heap.size + 1) .u32 256 (fun _ => 0) 44) (fun i _ => 256 - (intOf i).toNat)
  case atStart => exact ⟨0, by omega, rfl, (((Below.refl _ _).alloc (Nat.le_refl _) _).alloc (by first | omega | (simp; done) | (simp; omega)) _).alloc (by first | omega | (simp; done) | (simp; omega)) _, (Blk.new _ _ _ _ _ (by first | omega | (simp; done) | (simp; omega))).start _, (Blk.new _ _ _ _ _ (by first | omega | (simp; done) | (simp; omega))).alloc _⟩
  case round =>
    obtain ⟨k, hk, rfl, hb, h2, h1⟩ := hrel
    by_cases hlt : k < 256
    · have hc := h2.cell hlt
      have hf := h2.frozen k
      go_wp2_with fail
      go_roundw
      case rel => exact ⟨k + 1, by omega, by go_num, hb.setCell (by first | omega | (simp; done) | (simp; omega)) _, h2.fill, h1.other _ _ (by first | omega | (simp; done) | (simp; omega))⟩
      case measure => simp [intOf]; omega
    · obtain rfl : k = 256 := by omega
      have h2 := h2.full
      go_wp2_with (first | (with_reducible refine at_load 44 _ rfl ?_; refine wpList_load_arr Try.underlying44 iN rfl _ rfl _ rfl (h2) ?_) | (with_reducible refine at_store 44 _ _ rfl ?_; refine wpList_store_arr iN rfl _ _ rfl _ rfl rfl (h1) ?_))
      exact bodyPost_ret (v := .agg (arr .u32 256 z)) (results_arr Try.underlying44 iN rfl _ _ _ rfl (h1.row _ _)) rfl ⟨rfl, below_setRow hb (by omega) _⟩

set_option maxRecDepth 100000 in
set_option maxHeartbeats 1000000 in
theorem implOfTransform (z : Nat → Int) (w : World) :
    Calls Try.prog 26 #[.agg (arr .u32 256 z)] w fun e w' => e = .returned (.agg (arr .u32 256 z)) ∧ Below w.heap.size w w' := by
  go_enter Try.func26, Try.ntmps26
  go_wp2_with (first | (with_reducible refine at_load 44 _ rfl ?_; refine wpList_load_arr Try.underlying44 iN rfl _ rfl _ rfl (((Blk.new w _ _ _ _ rfl).alloc _).alloc _) ?_))
  go_loopw [7] (fun i wr => ∃ k : Nat, k ≤ 256 ∧ i = .int .i64 k ∧ Below w.heap.size w wr ∧ Blk wr (w.heap.size + 1 + 1) .u32 256 (fun j => if j < k then z j else 0) 23 ∧ Blk wr (w.heap.size + 1) .u32 256 (fun _ => 0) 23) (fun i _ => 256 - (intOf i).toNat)
  case atStart => exact ⟨0, by omega, rfl, (((Below.refl _ _).alloc (Nat.le_refl _) _).alloc (by first | omega | (simp; done) | (simp; omega)) _).alloc (by first | omega | (simp; done) | (simp; omega)) _, (Blk.new _ _ _ _ _ (by first | omega | (simp; done) | (simp; omega))).start _, (Blk.new _ _ _ _ _ (by first | omega | (simp; done) | (simp; omega))).alloc _⟩
  case round =>
    obtain ⟨k, hk, rfl, hb, h2, h1⟩ := hrel
    by_cases hlt : k < 256
    · have hc := h2.cell hlt
      have hf := h2.frozen k
      go_wp2_with fail
      go_roundw
      case rel => exact ⟨k + 1, by omega, by go_num, hb.setCell (by first | omega | (simp; done) | (simp; omega)) _, h2.fill, h1.other _ _ (by first | omega | (simp; done) | (simp; omega))⟩
      case measure => simp [intOf]; omega
    · obtain rfl : k = 256 := by omega
      have h2 := h2.full
      go_wp2_with (first | (with_reducible refine at_load 23 _ rfl ?_; refine wpList_load_arr Try.underlying23 iU rfl _ rfl _ rfl (h2) ?_) | (with_reducible refine at_store 23 _ _ rfl ?_; refine wpList_store_arr iU rfl _ _ rfl _ rfl rfl (h1) ?_))
      exact bodyPost_ret (v := .agg (arr .u32 256 z)) (results_arr Try.underlying23 iU rfl _ _ _ rfl (h1.row _ _)) rfl ⟨rfl, below_setRow hb (by omega) _⟩

set_option maxRecDepth 100000 in
set_option maxHeartbeats 1000000 in
theorem polyAddR (x y : Nat → Int) (w : World) (hx : ∀ i, i < 256 → 0 ≤ x i ∧ x i < 8380417) (hy : ∀ i, i < 256 → 0 ≤ y i ∧ y i < 8380417) :
    Calls Try.prog 31 #[.agg (arr .u32 256 x), .agg (arr .u32 256 y)] w fun e w' => e = .returned (.agg (arr .u32 256 fun i => (x i + y i) % 8380417)) ∧ Below w.heap.size w w' := by
  have HX := Lib.hid hx; clear hx
  have HY := Lib.hid hy; clear hy
  go_enter Try.func31, Try.ntmps31
  go_wp2_with (first | (with_reducible refine at_load 39 _ rfl ?_; refine wpList_load_arr Try.underlying39 iR rfl _ rfl _ rfl (Blk.new _ _ _ _ _ (by first | omega | (simp; done) | (simp; omega))) ?_))
  go_loopw [7] (fun i wr => ∃ k : Nat, k ≤ 256 ∧ i = .int .i64 k ∧ Below w.heap.size w wr ∧ Blk wr (w.heap.size + 1 + 1) .u32 256 (fun j => if j < k then (x j + y j) % 8380417 else 0) 39 ∧ Blk wr (w.heap.size + 1) .u32 256 y 39 ∧ Blk wr w.heap.size .u32 256 x 39) (fun i _ => 256 - (intOf i).toNat)
  case atStart => exact ⟨0, by omega, rfl, (((Below.refl _ _).alloc (Nat.le_refl _) _).alloc (by first | omega | (simp; done) | (simp; omega)) _).alloc (by first | omega | (simp; done) | (simp; omega)) _, (Blk.new _ _ _ _ _ (by first | omega | (simp; done) | (simp; omega))).start _, (Blk.new _ _ _ _ _ (by first | omega | (simp; done) | (simp; omega))).alloc _, ((Blk.new _ _ _ _ _ rfl).alloc _).alloc _⟩
  case round =>
    obtain ⟨k, hk, rfl, hb, h2, h1, h0⟩ := hrel
    by_cases hlt : k < 256
    · have hc2 := h2.cell hlt
      have hf := h2.frozen k
      have hc1 := h1.cell hlt
      have hc0 := h0.cell hlt
      obtain ⟨hx0, hx1⟩ := HX.out k hlt
      obtain ⟨hy0, hy1⟩ := HY.out k hlt
      skip
      go_wp2_with fail
      refine wp_region_drew_tail 9 (by kernel_rfl) (by kernel_rfl) ?_
      simp only [List.take_succ_cons, List.take_zero, List.drop_succ_cons, List.drop_zero]
      repeat (go_big_quiet_step ((go_at_call 37; exact Calls.quiet_eq (fieldAdd _ _ _ hx0 hx1 hy0 hy1))))
      refine wpQuiet_nil ?_
      intro _ hw'
      obtain ⟨nq, hw''⟩ := hw'
      subst hw''
      go_wp2_with fail
      go_roundw
      case rel => exact ⟨k + 1, by omega, by go_num, (below_drewN hb _).setCell (by first | omega | (simp; done) | (simp; omega)) _, Blk.fill (f := fun j => (x j + y j) % 8380417) (h2.drewN _), (h1.drewN _).other _ _ (by first | omega | (simp; done) | (simp; omega)), (h0.drewN _).other _ _ (by first | omega | (simp; done) | (simp; omega))⟩
      case measure => simp [intOf]; omega
    · obtain rfl : k = 256 := by omega
      have h2 := h2.full
      go_wp2_with (first | (with_reducible refine at_load 39 _ rfl ?_; refine wpList_load_arr Try.underlying39 iR rfl _ rfl _ rfl (h2) ?_) | (with_reducible refine at_store 39 _ _ rfl ?_; refine wpList_store_arr iR rfl _ _ rfl _ rfl rfl (h2) ?_))
      exact bodyPost_ret (v := .agg (arr .u32 256 fun i => (x i + y i) % 8380417)) (results_arr Try.underlying39 iR rfl _ _ _ rfl (h2.row _ _)) rfl ⟨rfl, below_setRow hb (by omega) _⟩

set_option maxRecDepth 100000 in
set_option maxHeartbeats 1000000 in
theorem polySubR (x y : Nat → Int) (w : World) (hx : ∀ i, i < 256 → 0 ≤ x i ∧ x i < 8380417) (hy : ∀ i, i < 256 → 0 ≤ y i ∧ y i < 8380417) :
    Calls Try.prog 32 #[.agg (arr .u32 256 x), .agg (arr .u32 256 y)] w fun e w' => e = .returned (.agg (arr .u32 256 fun i => (x i + 8380417 - y i) % 8380417)) ∧ Below w.heap.size w w' := by
  have HX := Lib.hid hx; clear hx
  have HY := Lib.hid hy; clear hy
  go_enter Try.func32, Try.ntmps32
  go_wp2_with (first | (with_reducible refine at_load 39 _ rfl ?_; refine wpList_load_arr Try.underlying39 iR rfl _ rfl _ rfl (Blk.new _ _ _ _ _ (by first | omega | (simp; done) | (simp; omega))) ?_))
  go_loopw [7] (fun i wr => ∃ k : Nat, k ≤ 256 ∧ i = .int .i64 k ∧ Below w.heap.size w wr ∧ Blk wr (w.heap.size + 1 + 1) .u32 256 (fun j => if j < k then (x j + 8380417 - y j) % 8380417 else 0) 39 ∧ Blk wr (w.heap.size + 1) .u32 256 y 39 ∧ Blk wr w.heap.size .u32 256 x 39) (fun i _ => 256 - (intOf i).toNat)
  case atStart => exact ⟨0, by omega, rfl, (((Below.refl _ _).alloc (Nat.le_refl _) _).alloc (by first | omega | (simp; done) | (simp; omega)) _).alloc (by first | omega | (simp; done) | (simp; omega)) _, (Blk.new _ _ _ _ _ (by first | omega | (simp; done) | (simp; omega))).start _, (Blk.new _ _ _ _ _ (by first | omega | (simp; done) | (simp; omega))).alloc _, ((Blk.new _ _ _ _ _ rfl).alloc _).alloc _⟩
  case round =>
    obtain ⟨k, hk, rfl, hb, h2, h1, h0⟩ := hrel
    by_cases hlt : k < 256
    · have hc2 := h2.cell hlt
      have hf := h2.frozen k
      have hc1 := h1.cell hlt
      have hc0 := h0.cell hlt
      obtain ⟨hx0, hx1⟩ := HX.out k hlt
      obtain ⟨hy0, hy1⟩ := HY.out k hlt
      skip
      go_wp2_with fail
      refine wp_region_drew_tail 9 (by kernel_rfl) (by kernel_rfl) ?_
      simp only [List.take_succ_cons, List.take_zero, List.drop_succ_cons, List.drop_zero]
      repeat (go_big_quiet_step ((go_at_call 38; exact Calls.quiet_eq (fieldSub _ _ _ hx0 hx1 hy0 hy1))))
      refine wpQuiet_nil ?_
      intro _ hw'
      obtain ⟨nq, hw''⟩ := hw'
      subst hw''
      go_wp2_with fail
      go_roundw
      case rel => exact ⟨k + 1, by omega, by go_num, (below_drewN hb _).setCell (by first | omega | (simp; done) | (simp; omega)) _, Blk.fill (f := fun j => (x j + 8380417 - y j) % 8380417) (h2.drewN _), (h1.drewN _).other _ _ (by first | omega | (simp; done) | (simp; omega)), (h0.drewN _).other _ _ (by first | omega | (simp; done) | (simp; omega))⟩
      case measure => simp [intOf]; omega
    · obtain rfl : k = 256 := by omega
      have h2 := h2.full
      go_wp2_with (first | (with_reducible refine at_load 39 _ rfl ?_; refine wpList_load_arr Try.underlying39 iR rfl _ rfl _ rfl (h2) ?_) | (with_reducible refine at_store 39 _ _ rfl ?_; refine wpList_store_arr iR rfl _ _ rfl _ rfl rfl (h2) ?_))
      exact bodyPost_ret (v := .agg (arr .u32 256 fun i => (x i + 8380417 - y i) % 8380417)) (results_arr Try.underlying39 iR rfl _ _ _ rfl (h2.row _ _)) rfl ⟨rfl, below_setRow hb (by omega) _⟩

set_option maxRecDepth 100000 in
set_option maxHeartbeats 1000000 in
theorem nttMulC (x y : Nat → Int) (w : World) (hx : ∀ i, i < 256 → 0 ≤ x i ∧ x i < 8380417) (hy : ∀ i, i < 256 → 0 ≤ y i ∧ y i < 8380417) :
    Calls Try.prog 35 #[.agg (arr .u32 256 x), .agg (arr .u32 256 y)] w fun e w' => e = .returned (.agg (arr .u32 256 fun i => mred (x i * y i))) ∧ Below w.heap.size w w' := by
  have HX := Lib.hid hx; clear hx
  have HY := Lib.hid hy; clear hy
  go_enter Try.func35, Try.ntmps35
  go_wp2_with fail
  go_loopw [6] (fun i wr => ∃ k : Nat, k ≤ 256 ∧ i = .int .i64 k ∧ Below w.heap.size w wr ∧ Blk wr (w.heap.size + 1 + 1) .u32 256 (fun j => if j < k then mred (x j * y j) else 0) 44 ∧ Blk wr (w.heap.size + 1) .u32 256 y 44 ∧ Blk wr w.heap.size .u32 256 x 44) (fun i _ => 256 - (intOf i).toNat)
  case atStart => exact ⟨0, by omega, rfl, (((Below.refl _ _).alloc (Nat.le_refl _) _).alloc (by first | omega | (simp; done) | (simp; omega)) _).alloc (by first | omega | (simp; done) | (simp; omega)) _, (Blk.new _ _ _ _ _ (by first | omega | (simp; done) | (simp; omega))).start _, (Blk.new _ _ _ _ _ (by first | omega | (simp; done) | (simp; omega))).alloc _, ((Blk.new _ _ _ _ _ rfl).alloc _).alloc _⟩
  case round =>
    obtain ⟨k, hk, rfl, hb, h2, h1, h0⟩ := hrel
    by_cases hlt : k < 256
    · have hc2 := h2.cell hlt
      have hf := h2.frozen k
      have hc1 := h1.cell hlt
      have hc0 := h0.cell hlt
      obtain ⟨hx0, hx1⟩ := HX.out k hlt
      obtain ⟨hy0, hy1⟩ := HY.out k hlt
      skip
      go_wp2_with fail
      refine wp_region_drew_tail 9 (by kernel_rfl) (by kernel_rfl) ?_
      simp only [List.take_succ_cons, List.take_zero, List.drop_succ_cons, List.drop_zero]
      repeat (go_big_quiet_step ((go_at_call 39; exact Calls.quiet_eq (fieldMul _ _ _ hx0 (by omega) hy0 hy1))))
      refine wpQuiet_nil ?_
      intro _ hw'
      obtain ⟨nq, hw''⟩ := hw'
      subst hw''
      go_wp2_with fail
      go_roundw
      case rel => exact ⟨k + 1, by omega, by go_num, (below_drewN hb _).setCell (by first | omega | (simp; done) | (simp; omega)) _, Blk.fill (f := fun j => mred (x j * y j)) (h2.drewN _), (h1.drewN _).other _ _ (by first | omega | (simp; done) | (simp; omega)), (h0.drewN _).other _ _ (by first | omega | (simp; done) | (simp; omega))⟩
      case measure => simp [intOf]; omega
    · obtain rfl : k = 256 := by omega
      have h2 := h2.full
      go_wp2_with (first | (with_reducible refine at_load 44 _ rfl ?_; refine wpList_load_arr Try.underlying44 iN rfl _ rfl _ rfl (h2) ?_) | (with_reducible refine at_store 44 _ _ rfl ?_; refine wpList_store_arr iN rfl _ _ rfl _ rfl rfl (h2) ?_))
      exact bodyPost_ret (v := .agg (arr .u32 256 fun i => mred (x i * y i))) (results_arr Try.underlying44 iN rfl _ _ _ rfl (h2.row _ _)) rfl ⟨rfl, below_setRow hb (by omega) _⟩

set_option maxRecDepth 100000 in
set_option maxHeartbeats 1000000 in
theorem spPlus (x y : Nat → Int) (w : World) (hx : ∀ i, i < 256 → 0 ≤ x i ∧ x i < 8380417) (hy : ∀ i, i < 256 → 0 ≤ y i ∧ y i < 8380417) :
    Calls Try.prog 10 #[.agg (arr .i64 256 x), .agg (arr .i64 256 y)] w fun e w' => e = .returned (.agg (arr .i64 256 fun i => (x i + y i) % 8380417)) ∧ Below w.heap.size w w' := by
  have HX := Lib.hid hx; clear hx
  have HY := Lib.hid hy; clear hy
  go_enter Try.func10, Try.ntmps10
  go_wp2_with (first | (with_reducible refine at_store 25 _ _ rfl ?_; refine wpList_store_arr iP rfl _ _ rfl _ rfl rfl (Blk.new _ _ _ _ _ (by first | omega | (simp; done) | (simp; omega))) ?_))
  go_loopw [6] (fun i wr => ∃ k : Nat, k ≤ 256 ∧ i = .int .i64 k ∧ Below w.heap.size w wr ∧ Blk wr (w.heap.size + 1 + 1 + 1) .i64 256 (fun j => if j < k then (x j + y j) % 8380417 else 0) 25 ∧ Blk wr (w.heap.size + 1 + 1) .i64 256 (fun _ => 0) 25 ∧ Blk wr (w.heap.size + 1) .i64 256 y 25 ∧ Blk wr w.heap.size .i64 256 x 25) (fun i _ => 256 - (intOf i).toNat)
  case atStart => exact ⟨0, by omega, rfl, below_setRow (((((Below.refl _ _).alloc (Nat.le_refl _) _).alloc (by first | omega | (simp; done) | (simp; omega)) _).alloc (by first | omega | (simp; done) | (simp; omega)) _).alloc (by first | omega | (simp; done) | (simp; omega)) _) (by first | omega | (simp; done) | (simp; omega)) _, ((Blk.new _ _ _ _ _ (by first | omega | (simp; done) | (simp; omega))).row _ _).start _, ((Blk.new _ _ _ _ _ (by first | omega | (simp; done) | (simp; omega))).alloc _).rowOther _ _ (by first | omega | (simp; done) | (simp; omega)), (((Blk.new _ _ _ _ _ (by first | omega | (simp; done) | (simp; omega))).alloc _).alloc _).rowOther _ _ (by first | omega | (simp; done) | (simp; omega)), ((((Blk.new _ _ _ _ _ rfl).alloc _).alloc _).alloc _).rowOther _ _ (by first | omega | (simp; done) | (simp; omega))⟩
  case round =>
    obtain ⟨k, hk, rfl, hb, h3, h2, h1, h0⟩ := hrel
    by_cases hlt : k < 256
    · have hc2 := h3.cell hlt
      have hf := h3.frozen k
      have hc1 := h1.cell hlt
      have hc0 := h0.cell hlt
      obtain ⟨hx0, hx1⟩ := HX.out k hlt
      obtain ⟨hy0, hy1⟩ := HY.out k hlt
      skip
      go_wp2_with fail
      refine wp_region_drew_tail 10 (by kernel_rfl) (by kernel_rfl) ?_
      simp only [List.take_succ_cons, List.take_zero, List.drop_succ_cons, List.drop_zero]
      repeat (go_big_quiet_step (fail))
      refine wpQuiet_nil ?_
      intro _ hw'
      obtain ⟨nq, hw''⟩ := hw'
      subst hw''
      go_wp2_with fail
      go_roundw
      case rel => exact ⟨k + 1, by omega, by go_num, (below_drewN hb _).setCell (by first | omega | (simp; done) | (simp; omega)) _, Blk.fill (f := fun j => (x j + y j) % 8380417) (h3.drewN _), (h2.drewN _).other _ _ (by first | omega | (simp; done) | (simp; omega)), (h1.drewN _).other _ _ (by first | omega | (simp; done) | (simp; omega)), (h0.drewN _).other _ _ (by first | omega | (simp; done) | (simp; omega))⟩
      case measure => simp [intOf]; omega
    · obtain rfl : k = 256 := by omega
      have h3 := h3.full
      go_wp2_with (first | (with_reducible refine at_load 25 _ rfl ?_; refine wpList_load_arr Try.underlying25 iP rfl _ rfl _ rfl (h3) ?_) | (with_reducible refine at_store 25 _ _ rfl ?_; refine wpList_store_arr iP rfl _ _ rfl _ rfl rfl (h2) ?_))
      exact bodyPost_ret (v := .agg (arr .i64 256 fun i => (x i + y i) % 8380417)) (results_arr Try.underlying25 iP rfl _ _ _ rfl (h2.row _ _)) rfl ⟨rfl, below_setRow hb (by omega) _⟩

set_option maxRecDepth 100000 in
set_option maxHeartbeats 1000000 in
theorem spMinus (x y : Nat → Int) (w : World) (hx : ∀ i, i < 256 → 0 ≤ x i ∧ x i < 8380417) (hy : ∀ i, i < 256 → 0 ≤ y i ∧ y i < 8380417) :
    Calls Try.prog 12 #[.agg (arr .i64 256 x), .agg (arr .i64 256 y)] w fun e w' => e = .returned (.agg (arr .i64 256 fun i => (x i + 8380417 - y i) % 8380417)) ∧ Below w.heap.size w w' := by
  have HX := Lib.hid hx; clear hx
  have HY := Lib.hid hy; clear hy
  go_enter Try.func12, Try.ntmps12
  go_wp2_with (first | (with_reducible refine at_store 25 _ _ rfl ?_; refine wpList_store_arr iP rfl _ _ rfl _ rfl rfl (Blk.new _ _ _ _ _ (by first | omega | (simp; done) | (simp; omega))) ?_))
  go_loopw [6] (fun i wr => ∃ k : Nat, k ≤ 256 ∧ i = .int .i64 k ∧ Below w.heap.size w wr ∧ Blk wr (w.heap.size + 1 + 1 + 1) .i64 256 (fun j => if j < k then (x j + 8380417 - y j) % 8380417 else 0) 25 ∧ Blk wr (w.heap.size + 1 + 1) .i64 256 (fun _ => 0) 25 ∧ Blk wr (w.heap.size + 1) .i64 256 y 25 ∧ Blk wr w.heap.size .i64 256 x 25) (fun i _ => 256 - (intOf i).toNat)
  case atStart => exact ⟨0, by omega, rfl, below_setRow (((((Below.refl _ _).alloc (Nat.le_refl _) _).alloc (by first | omega | (simp; done) | (simp; omega)) _).alloc (by first | omega | (simp; done) | (simp; omega)) _).alloc (by first | omega | (simp; done) | (simp; omega)) _) (by first | omega | (simp; done) | (simp; omega)) _, ((Blk.new _ _ _ _ _ (by first | omega | (simp; done) | (simp; omega))).row _ _).start _, ((Blk.new _ _ _ _ _ (by first | omega | (simp; done) | (simp; omega))).alloc _).rowOther _ _ (by first | omega | (simp; done) | (simp; omega)), (((Blk.new _ _ _ _ _ (by first | omega | (simp; done) | (simp; omega))).alloc _).alloc _).rowOther _ _ (by first | omega | (simp; done) | (simp; omega)), ((((Blk.new _ _ _ _ _ rfl).alloc _).alloc _).alloc _).rowOther _ _ (by first | omega | (simp; done) | (simp; omega))⟩
  case round =>
    obtain ⟨k, hk, rfl, hb, h3, h2, h1, h0⟩ := hrel
    by_cases hlt : k < 256
    · have hc2 := h3.cell hlt
      have hf := h3.frozen k
      have hc1 := h1.cell hlt
      have hc0 := h0.cell hlt
      obtain ⟨hx0, hx1⟩ := HX.out k hlt
      obtain ⟨hy0, hy1⟩ := HY.out k hlt
      skip
      go_wp2_with fail
      refine wp_region_drew_tail 11 (by kernel_rfl) (by kernel_rfl) ?_
      simp only [List.take_succ_cons, List.take_zero, List.drop_succ_cons, List.drop_zero]
      repeat (go_big_quiet_step (fail))
      refine wpQuiet_nil ?_
      intro _ hw'
      obtain ⟨nq, hw''⟩ := hw'
      subst hw''
      go_wp2_with fail
      go_roundw
      case rel => exact ⟨k + 1, by omega, by go_num, (below_drewN hb _).setCell (by first | omega | (simp; done) | (simp; omega)) _, Blk.fill (f := fun j => (x j + 8380417 - y j) % 8380417) (h3.drewN _), (h2.drewN _).other _ _ (by first | omega | (simp; done) | (simp; omega)), (h1.drewN _).other _ _ (by first | omega | (simp; done) | (simp; omega)), (h0.drewN _).other _ _ (by first | omega | (simp; done) | (simp; omega))⟩
      case measure => simp [intOf]; omega
    · obtain rfl : k = 256 := by omega
      have h3 := h3.full
      go_wp2_with (first | (with_reducible refine at_load 25 _ rfl ?_; refine wpList_load_arr Try.underlying25 iP rfl _ rfl _ rfl (h3) ?_) | (with_reducible refine at_store 25 _ _ rfl ?_; refine wpList_store_arr iP rfl _ _ rfl _ rfl rfl (h2) ?_))
      exact bodyPost_ret (v := .agg (arr .i64 256 fun i => (x i + 8380417 - y i) % 8380417)) (results_arr Try.underlying25 iP rfl _ _ _ rfl (h2.row _ _)) rfl ⟨rfl, below_setRow hb (by omega) _⟩

set_option maxRecDepth 100000 in
set_option maxHeartbeats 1000000 in
theorem spTimes (x y : Nat → Int) (w : World) (hx : ∀ i, i < 256 → 0 ≤ x i ∧ x i < 8380417) (hy : ∀ i, i < 256 → 0 ≤ y i ∧ y i < 8380417) :
    Calls Try.prog 16 #[.agg (arr .i64 256 x), .agg (arr .i64 256 y)] w fun e w' => e = .returned (.agg (arr .i64 256 fun i => x i * y i % 8380417)) ∧ Below w.heap.size w w' := by
  have HX := Lib.hid hx; clear hx
  have HY := Lib.hid hy; clear hy
  go_enter Try.func16, Try.ntmps16
  go_wp2_with (first | (with_reducible refine at_store 25 _ _ rfl ?_; refine wpList_store_arr iP rfl _ _ rfl _ rfl rfl (Blk.new _ _ _ _ _ (by first | omega | (simp; done) | (simp; omega))) ?_))
  go_loopw [6] (fun i wr => ∃ k : Nat, k ≤ 256 ∧ i = .int .i64 k ∧ Below w.heap.size w wr ∧ Blk wr (w.heap.size + 1 + 1 + 1) .i64 256 (fun j => if j < k then x j * y j % 8380417 else 0) 25 ∧ Blk wr (w.heap.size + 1 + 1) .i64 256 (fun _ => 0) 25 ∧ Blk wr (w.heap.size + 1) .i64 256 y 25 ∧ Blk wr w.heap.size .i64 256 x 25) (fun i _ => 256 - (intOf i).toNat)
  case atStart => exact ⟨0, by omega, rfl, below_setRow (((((Below.refl _ _).alloc (Nat.le_refl _) _).alloc (by first | omega | (simp; done) | (simp; omega)) _).alloc (by first | omega | (simp; done) | (simp; omega)) _).alloc (by first | omega | (simp; done) | (simp; omega)) _) (by first | omega | (simp; done) | (simp; omega)) _, ((Blk.new _ _ _ _ _ (by first | omega | (simp; done) | (simp; omega))).row _ _).start _, ((Blk.new _ _ _ _ _ (by first | omega | (simp; done) | (simp; omega))).alloc _).rowOther _ _ (by first | omega | (simp; done) | (simp; omega)), (((Blk.new _ _ _ _ _ (by first | omega | (simp; done) | (simp; omega))).alloc _).alloc _).rowOther _ _ (by first | omega | (simp; done) | (simp; omega)), ((((Blk.new _ _ _ _ _ rfl).alloc _).alloc _).alloc _).rowOther _ _ (by first | omega | (simp; done) | (simp; omega))⟩
  case round =>
    obtain ⟨k, hk, rfl, hb, h3, h2, h1, h0⟩ := hrel
    by_cases hlt : k < 256
    · have hc2 := h3.cell hlt
      have hf := h3.frozen k
      have hc1 := h1.cell hlt
      have hc0 := h0.cell hlt
      obtain ⟨hx0, hx1⟩ := HX.out k hlt
      obtain ⟨hy0, hy1⟩ := HY.out k hlt
      obtain ⟨hp0, hp1⟩ := prod_lt (x k) (y k) 8380416 8380416 hx0 (by omega) hy0 (by omega)
      go_wp2_with fail
      refine wp_region_drew_tail 10 (by kernel_rfl) (by kernel_rfl) ?_
      simp only [List.take_succ_cons, List.take_zero, List.drop_succ_cons, List.drop_zero]
      repeat (go_big_quiet_step (fail))
      refine wpQuiet_nil ?_
      intro _ hw'
      obtain ⟨nq, hw''⟩ := hw'
      subst hw''
      go_wp2_with fail
      go_roundw
      case rel => exact ⟨k + 1, by omega, by go_num, (below_drewN hb _).setCell (by first | omega | (simp; done) | (simp; omega)) _, Blk.fill (f := fun j => x j * y j % 8380417) (h3.drewN _), (h2.drewN _).other _ _ (by first | omega | (simp; done) | (simp; omega)), (h1.drewN _).other _ _ (by first | omega | (simp; done) | (simp; omega)), (h0.drewN _).other _ _ (by first | omega | (simp; done) | (simp; omega))⟩
      case measure => simp [intOf]; omega
    · obtain rfl : k = 256 := by omega
      have h3 := h3.full
      go_wp2_with (first | (with_reducible refine at_load 25 _ rfl ?_; refine wpList_load_arr Try.underlying25 iP rfl _ rfl _ rfl (h3) ?_) | (with_reducible refine at_store 25 _ _ rfl ?_; refine wpList_store_arr iP rfl _ _ rfl _ rfl rfl (h2) ?_))
      exact bodyPost_ret (v := .agg (arr .i64 256 fun i => x i * y i % 8380417)) (results_arr Try.underlying25 iP rfl _ _ _ rfl (h2.row _ _)) rfl ⟨rfl, below_setRow hb (by omega) _⟩

/-- Whether all 256 numbers are below the prime. -/
def redB (z : Nat → Int) : Bool := (List.range 256).all fun i => decide (z i < 8380417)
theorem redB_true {z : Nat → Int} (h : redB z = true) (i : Nat) (hi : i < 256) : z i < 8380417 := by
  unfold redB at h
  rw [List.all_eq_true] at h
  simpa using h i (List.mem_range.2 hi)
theorem lwReducedArr (g : Nat) (z : Nat → Int) (t : TypeId) (w : World) (h : Blk w g .u32 256 z t) :
    Calls Try.prog 19 #[.slice (some ⟨g, 0, none⟩) 256 256] w fun e w' => e = .returned (.bool (redB z)) ∧ w = w' := by
  have := lwReduced g 0 256 256 ((List.range 256).map z) w (by simp) (by omega) (fun j hj => by rw [Nat.zero_add, h.cell hj]; simp [List.getD, hj])
  rw [List.all_map] at this
  exact this

set_option maxRecDepth 100000 in
set_option maxHeartbeats 1000000 in
theorem lwRaw (z : Nat → Int) (w : World) (hz : ∀ i, i < 256 → 0 ≤ z i ∧ z i < 4294967296) :
    Calls Try.prog 7 #[.agg (arr .u32 256 z)] w fun e w' => e = .returned (.tuple #[.agg (arr .i64 256 z), .bool (redB z)]) ∧ Below w.heap.size w w' := by
  have HZ := Lib.hid hz; clear hz
  go_enter Try.func7, Try.ntmps7
  go_wp2_with (first | (with_reducible refine at_load 23 _ rfl ?_; refine wpList_load_arr Try.underlying23 iU rfl _ rfl _ rfl ((((Blk.new w _ _ _ _ rfl).alloc _).alloc _).rowOther _ _ (by first | omega | (simp; done) | (simp; omega))) ?_) | (with_reducible refine at_store 25 _ _ rfl ?_; refine wpList_store_arr iP rfl _ _ rfl _ rfl rfl (Blk.new _ _ _ _ _ (by first | omega | (simp; done) | (simp; omega))) ?_))
  go_loopw [9] (fun i wr => ∃ k : Nat, k ≤ 256 ∧ i = .int .i64 k ∧ Below w.heap.size w wr ∧ Blk wr (w.heap.size + 1 + 1) .i64 256 (fun j => if j < k then z j else 0) 25 ∧ Blk wr (w.heap.size + 1) .i64 256 (fun _ => 0) 25 ∧ Blk wr w.heap.size .u32 256 z 23) (fun i _ => 256 - (intOf i).toNat)
  case atStart => exact ⟨0, by omega, rfl, below_setRow ((((Below.refl _ _).alloc (Nat.le_refl _) _).alloc (by first | omega | (simp; done) | (simp; omega)) _).alloc (by first | omega | (simp; done) | (simp; omega)) _) (by first | omega | (simp; done) | (simp; omega)) _, ((Blk.new _ _ _ _ _ (by first | omega | (simp; done) | (simp; omega))).row _ _).start _, ((Blk.new _ _ _ _ _ (by first | omega | (simp; done) | (simp; omega))).alloc _).rowOther _ _ (by first | omega | (simp; done) | (simp; omega)), (((Blk.new _ _ _ _ _ rfl).alloc _).alloc _).rowOther _ _ (by first | omega | (simp; done) | (simp; omega))⟩
  case round =>
    obtain ⟨k, hk, rfl, hb, h2, h1, h0⟩ := hrel
    by_cases hlt : k < 256
    · have hc := h2.cell hlt
      have hf := h2.frozen k
      obtain ⟨hz0, hz1⟩ := HZ.out k hlt
      go_wp2_with fail
      go_roundw
      case rel => exact ⟨k + 1, by omega, by go_num, hb.setCell (by first | omega | (simp; done) | (simp; omega)) _, h2.fill, h1.other _ _ (by first | omega | (simp; done) | (simp; omega)), h0.other _ _ (by first | omega | (simp; done) | (simp; omega))⟩
      case measure => simp [intOf]; omega
    · obtain rfl : k = 256 := by omega
      have h2 := h2.full
      go_wp2_with fail
      refine wp_region_drew_tail 3 (by kernel_rfl) (by kernel_rfl) ?_
      simp only [List.take_succ_cons, List.take_zero, List.drop_succ_cons, List.drop_zero]
      (refine BigFrame.wpQuiet_want rfl (fun K hK => ?_); refine quiet_load_arr Try.underlying25 iP _ rfl _ rfl (fun w' hw' => (by obtain ⟨m, rfl⟩ := hw'; exact h2.drewN m)) (hK _ ?_); clear hK K; simp only [Act.put, List.setIfInBounds_toArray, List.set_cons_zero, List.set_cons_succ])
      repeat (go_big_quiet_step ((go_at_call 19; exact Calls.quiet_eq (lwReducedArr _ _ _ _ (h0.drewN _)))))
      refine wpQuiet_nil ?_
      intro _ hw'
      obtain ⟨nq, hw''⟩ := hw'
      subst hw''
      go_wp2_with (first | (with_reducible refine at_store 25 _ _ rfl ?_; refine wpList_store_arr iP rfl _ _ rfl _ rfl rfl (h1.drewN _) ?_))
      exact bodyPost_ret (v := .tuple #[.agg (arr .i64 256 z), .bool (redB z)]) (results_arr_tmp Try.underlying25 iP rfl _ _ _ _ rfl rfl ((h1.drewN _).row _ _)) rfl ⟨rfl, below_setRow (below_drewN hb _) (by first | omega | (simp; done) | (simp; omega)) _⟩

set_option maxRecDepth 100000 in
set_option maxHeartbeats 1000000 in
theorem lwPlain (z : Nat → Int) (w : World) (hz : ∀ i, i < 256 → 0 ≤ z i ∧ z i < 4294967296) :
    Calls Try.prog 13 #[.agg (arr .u32 256 z)] w fun e w' => e = .returned (.tuple #[.agg (arr .i64 256 fun i => mred (z i)), .bool (redB z)]) ∧ Below w.heap.size w w' := by
  have HZ := Lib.hid hz; clear hz
  go_enter Try.func13, Try.ntmps13
  go_wp2_with (first | (with_reducible refine at_load 23 _ rfl ?_; refine wpList_load_arr Try.underlying23 iU rfl _ rfl _ rfl ((Blk.new w _ _ _ _ rfl).alloc _) ?_))
  refine (lwRaw z _ HZ.out).mono ?_
  rintro e w1 ⟨rfl, hb1⟩
  have g0 := ((Blk.new w .u32 256 z 23 rfl).alloc (.cells (arr .i64 256 fun _ => 0) 25)).below hb1
  have g1 := (Blk.new (g := w.heap.size + 1) (w.alloc (.cells (arr .u32 256 z) 23)) .i64 256 (fun _ => 0) 25 (by first | omega | (simp; done) | (simp; omega))).below hb1
  have hB := belowChain (((Below.refl w.heap.size w).alloc (Nat.le_refl _) (.cells (arr .u32 256 z) 23)).alloc (by first | omega | (simp; done) | (simp; omega)) (.cells (arr .i64 256 fun _ => 0) 25)) hb1 (by first | omega | (simp; done) | (simp; omega))
  have hsz : w.heap.size + 1 < w1.heap.size := g1.lt
  clear hb1
  go_wp2_with (first | (with_reducible refine at_store 25 _ _ rfl ?_; refine wpList_store_arr iP rfl _ _ rfl _ rfl rfl (Blk.new _ _ _ _ _ (by first | omega | (simp; done) | (simp; omega))) ?_))
  go_loopw [6] (fun i wr => ∃ k : Nat, k ≤ 256 ∧ i = .int .i64 k ∧ Below w.heap.size w wr ∧ Blk wr w1.heap.size .i64 256 (fun j => if j < k then mred (z j) else z j) 25 ∧ Blk wr (w.heap.size + 1) .i64 256 (fun _ => 0) 25) (fun i _ => 256 - (intOf i).toNat)
  case atStart => exact ⟨0, by omega, rfl, below_setRow (hB.alloc (by first | omega | (simp; done) | (simp; omega)) _) (by first | omega | (simp; done) | (simp; omega)) _, ((Blk.new _ _ _ _ _ (by first | omega | (simp; done) | (simp; omega))).row _ _).start _, (g1.alloc _).rowOther _ _ (by first | omega | (simp; done) | (simp; omega))⟩
  case round =>
    obtain ⟨k, hk, rfl, hb, h2, h1⟩ := hrel
    by_cases hlt : k < 256
    · have hc := h2.cell hlt
      rw [if_neg (by omega)] at hc
      have hf := h2.frozen k
      obtain ⟨hz0, hz1⟩ := HZ.out k hlt
      go_wp2_with (first | (go_at_call 24; refine (spPlain _ _ hz0 hz1).mono ?_; rintro e w' ⟨rfl, rfl⟩))
      go_roundw
      case rel => exact ⟨k + 1, by omega, by go_num, hb.setCell (by first | omega | (simp; done) | (simp; omega)) _, Blk.fill (f := fun j => mred (z j)) h2, h1.other _ _ (by first | omega | (simp; done) | (simp; omega))⟩
      case measure => simp [intOf]; omega
    · obtain rfl : k = 256 := by omega
      have h2 := h2.full
      go_wp2_with (first | (with_reducible refine at_load 25 _ rfl ?_; refine wpList_load_arr Try.underlying25 iP rfl _ rfl _ rfl (h2) ?_) | (with_reducible refine at_store 25 _ _ rfl ?_; refine wpList_store_arr iP rfl _ _ rfl _ rfl rfl (h1) ?_))
      exact bodyPost_ret (v := .tuple #[.agg (arr .i64 256 fun i => mred (z i)), .bool (redB z)]) (results_arr_tmp Try.underlying25 iP rfl _ _ _ _ rfl rfl (h1.row _ _)) rfl ⟨rfl, below_setRow hb (by first | omega | (simp; done) | (simp; omega)) _⟩

set_option maxRecDepth 100000 in
set_option maxHeartbeats 1000000 in
theorem zzRingAdd (x y : Nat → Int) (w : World) (hx : ∀ i, i < 256 → 0 ≤ x i ∧ x i < 8380417) (hy : ∀ i, i < 256 → 0 ≤ y i ∧ y i < 8380417) :
    Calls Try.prog 21 #[.agg (arr .u32 256 x), .agg (arr .u32 256 y)] w fun e w' => e = .returned (.agg (arr .u32 256 fun i => (x i + y i) % 8380417)) ∧ Below w.heap.size w w' := by
  go_enter Try.func21, Try.ntmps21
  go_wp2_with (first | (with_reducible refine at_loadx 39 2 rfl ?_; refine wpList_load_arr Try.underlying39 iR rfl _ rfl _ rfl (((((Blk.new _ _ _ _ _ (by first | omega | (simp; done) | (simp; omega))).alloc _)).alloc _)) ?_) | (with_reducible refine at_loadx 39 3 rfl ?_; refine wpList_load_arr Try.underlying39 iR rfl _ rfl _ rfl (((Blk.new _ _ _ _ _ (by first | omega | (simp; done) | (simp; omega))).alloc _)) ?_))
  refine (polyAddR x y _ hx hy).mono ?_
  rintro e w1 ⟨rfl, hb1⟩
  have hr := Blk.below (Blk.new (g := w.heap.size + 1 + 1) _ .u32 256 (fun _ => 0) 39 (by first | omega | (simp; done) | (simp; omega))) hb1
  have hB := belowChain ((((Below.refl w.heap.size w).alloc (by first | omega | (simp; done) | (simp; omega)) _).alloc (by first | omega | (simp; done) | (simp; omega)) _).alloc (by first | omega | (simp; done) | (simp; omega)) _) hb1 (by first | omega | (simp; done) | (simp; omega))
  go_wp2_with (first | (with_reducible refine at_store 39 _ _ rfl ?_; refine wpList_store_arr iR rfl _ _ rfl _ rfl rfl (hr) ?_))
  exact bodyPost_ret (v := .agg (arr .u32 256 fun i => (x i + y i) % 8380417)) (results_arr Try.underlying39 iR rfl _ _ _ rfl (hr.row _ _)) rfl ⟨rfl, below_setRow hB (by first | omega | (simp; done) | (simp; omega)) _⟩

set_option maxRecDepth 100000 in
set_option maxHeartbeats 1000000 in
theorem zzRingSub (x y : Nat → Int) (w : World) (hx : ∀ i, i < 256 → 0 ≤ x i ∧ x i < 8380417) (hy : ∀ i, i < 256 → 0 ≤ y i ∧ y i < 8380417) :
    Calls Try.prog 23 #[.agg (arr .u32 256 x), .agg (arr .u32 256 y)] w fun e w' => e = .returned (.agg (arr .u32 256 fun i => (x i + 8380417 - y i) % 8380417)) ∧ Below w.heap.size w w' := by
  go_enter Try.func23, Try.ntmps23
  go_wp2_with (first | (with_reducible refine at_loadx 39 2 rfl ?_; refine wpList_load_arr Try.underlying39 iR rfl _ rfl _ rfl (((((Blk.new _ _ _ _ _ (by first | omega | (simp; done) | (simp; omega))).alloc _)).alloc _)) ?_) | (with_reducible refine at_loadx 39 3 rfl ?_; refine wpList_load_arr Try.underlying39 iR rfl _ rfl _ rfl (((Blk.new _ _ _ _ _ (by first | omega | (simp; done) | (simp; omega))).alloc _)) ?_))
  refine (polySubR x y _ hx hy).mono ?_
  rintro e w1 ⟨rfl, hb1⟩
  have hr := Blk.below (Blk.new (g := w.heap.size + 1 + 1) _ .u32 256 (fun _ => 0) 39 (by first | omega | (simp; done) | (simp; omega))) hb1
  have hB := belowChain ((((Below.refl w.heap.size w).alloc (by first | omega | (simp; done) | (simp; omega)) _).alloc (by first | omega | (simp; done) | (simp; omega)) _).alloc (by first | omega | (simp; done) | (simp; omega)) _) hb1 (by first | omega | (simp; done) | (simp; omega))
  go_wp2_with (first | (with_reducible refine at_store 39 _ _ rfl ?_; refine wpList_store_arr iR rfl _ _ rfl _ rfl rfl (hr) ?_))
  exact bodyPost_ret (v := .agg (arr .u32 256 fun i => (x i + 8380417 - y i) % 8380417)) (results_arr Try.underlying39 iR rfl _ _ _ rfl (hr.row _ _)) rfl ⟨rfl, below_setRow hB (by first | omega | (simp; done) | (simp; omega)) _⟩

set_option maxRecDepth 100000 in
set_option maxHeartbeats 1000000 in
theorem zzNTTMul (x y : Nat → Int) (w : World) (hx : ∀ i, i < 256 → 0 ≤ x i ∧ x i < 8380417) (hy : ∀ i, i < 256 → 0 ≤ y i ∧ y i < 8380417) :
    Calls Try.prog 27 #[.agg (arr .u32 256 x), .agg (arr .u32 256 y)] w fun e w' => e = .returned (.agg (arr .u32 256 fun i => mred (x i * y i))) ∧ Below w.heap.size w w' := by
  go_enter Try.func27, Try.ntmps27
  go_wp2_with (first | (with_reducible refine at_loadx 44 2 rfl ?_; refine wpList_load_arr Try.underlying44 iN rfl _ rfl _ rfl (((((Blk.new _ _ _ _ _ (by first | omega | (simp; done) | (simp; omega))).alloc _)).alloc _)) ?_) | (with_reducible refine at_loadx 44 3 rfl ?_; refine wpList_load_arr Try.underlying44 iN rfl _ rfl _ rfl (((Blk.new _ _ _ _ _ (by first | omega | (simp; done) | (simp; omega))).alloc _)) ?_))
  refine (nttMulC x y _ hx hy).mono ?_
  rintro e w1 ⟨rfl, hb1⟩
  have hr := Blk.below (Blk.new (g := w.heap.size + 1 + 1) _ .u32 256 (fun _ => 0) 44 (by first | omega | (simp; done) | (simp; omega))) hb1
  have hB := belowChain ((((Below.refl w.heap.size w).alloc (by first | omega | (simp; done) | (simp; omega)) _).alloc (by first | omega | (simp; done) | (simp; omega)) _).alloc (by first | omega | (simp; done) | (simp; omega)) _) hb1 (by first | omega | (simp; done) | (simp; omega))
  go_wp2_with (first | (with_reducible refine at_store 44 _ _ rfl ?_; refine wpList_store_arr iN rfl _ _ rfl _ rfl rfl (hr) ?_))
  exact bodyPost_ret (v := .agg (arr .u32 256 fun i => mred (x i * y i))) (results_arr Try.underlying44 iN rfl _ _ _ rfl (hr.row _ _)) rfl ⟨rfl, below_setRow hB (by first | omega | (simp; done) | (simp; omega)) _⟩

set_option maxRecDepth 100000 in
set_option maxHeartbeats 1000000 in
theorem implRingAdd (x y : Nat → Int) (w : World) (hx : ∀ i, i < 256 → 0 ≤ x i ∧ x i < 8380417) (hy : ∀ i, i < 256 → 0 ≤ y i ∧ y i < 8380417) :
    Calls Try.prog 9 #[.agg (arr .u32 256 x), .agg (arr .u32 256 y)] w fun e w' => e = .returned (.agg (arr .u32 256 fun i => (x i + y i) % 8380417)) ∧ Below w.heap.size w w' := by
  have HX := Lib.hid hx; clear hx
  have HY := Lib.hid hy; clear hy
  go_enter Try.func9, Try.ntmps9
  go_wp2_with fail
  refine wp_region_below_tail 6 (by kernel_rfl) (by kernel_rfl) ?_
  simp only [List.take_succ_cons, List.take_zero, List.drop_succ_cons, List.drop_zero]
  (refine BigFrame.wpQuiet_want rfl (fun K hK => ?_); refine quiet_load_arr Try.underlying23 iU _ rfl _ rfl (fun w' hw' => Blk.below (((Blk.new w _ _ _ _ rfl).alloc _).alloc _) hw') (hK _ ?_); clear hK K; simp only [Act.put, List.setIfInBounds_toArray, List.set_cons_zero, List.set_cons_succ])
  go_big_quiet_step ((intro hw'; go_at_call 22; exact Calls.in_below hw' (implRing x _)))
  (refine BigFrame.wpQuiet_want rfl (fun K hK => ?_); refine quiet_load_arr Try.underlying23 iU _ rfl _ rfl (fun w' hw' => Blk.below ((Blk.new _ _ _ _ _ (by first | omega | (simp; done) | (simp; omega))).alloc _) hw') (hK _ ?_); clear hK K; simp only [Act.put, List.setIfInBounds_toArray, List.set_cons_zero, List.set_cons_succ])
  go_big_quiet_step ((intro hw'; go_at_call 22; exact Calls.in_below hw' (implRing y _)))
  go_big_quiet_step ((intro hw'; go_at_call 21; exact Calls.in_below hw' (zzRingAdd x y _ HX.out HY.out)))
  go_big_quiet_step ((intro hw'; go_at_call 20; exact Calls.in_below hw' (implOfRing _ _)))
  refine wpQuiet_nil ?_
  intro w2 hb2
  have hr := Blk.below (Blk.new (g := w.heap.size + 1 + 1) _ .u32 256 (fun _ => 0) 23 (by first | omega | (simp; done) | (simp; omega))) hb2
  have hB := belowChain (((((Below.refl w.heap.size w)).alloc (by first | omega | (simp; done) | (simp; omega)) _).alloc (by first | omega | (simp; done) | (simp; omega)) _).alloc (by first | omega | (simp; done) | (simp; omega)) _) hb2 (by first | omega | (simp; done) | (simp; omega))
  go_wp2_with (first | (with_reducible refine at_store 23 _ _ rfl ?_; refine wpList_store_arr iU rfl _ _ rfl _ rfl rfl (hr) ?_))
  exact bodyPost_ret (v := .agg (arr .u32 256 fun i => (x i + y i) % 8380417)) (results_arr Try.underlying23 iU rfl _ _ _ rfl (hr.row _ _)) rfl ⟨rfl, below_setRow hB (by first | omega | (simp; done) | (simp; omega)) _⟩

set_option maxRecDepth 100000 in
set_option maxHeartbeats 1000000 in
theorem implRingSub (x y : Nat → Int) (w : World) (hx : ∀ i, i < 256 → 0 ≤ x i ∧ x i < 8380417) (hy : ∀ i, i < 256 → 0 ≤ y i ∧ y i < 8380417) :
    Calls Try.prog 11 #[.agg (arr .u32 256 x), .agg (arr .u32 256 y)] w fun e w' => e = .returned (.agg (arr .u32 256 fun i => (x i + 8380417 - y i) % 8380417)) ∧ Below w.heap.size w w' := by
  have HX := Lib.hid hx; clear hx
  have HY := Lib.hid hy; clear hy
  go_enter Try.func11, Try.ntmps11
  go_wp2_with fail
  refine wp_region_below_tail 6 (by kernel_rfl) (by kernel_rfl) ?_
  simp only [List.take_succ_cons, List.take_zero, List.drop_succ_cons, List.drop_zero]
  (refine BigFrame.wpQuiet_want rfl (fun K hK => ?_); refine quiet_load_arr Try.underlying23 iU _ rfl _ rfl (fun w' hw' => Blk.below (((Blk.new w _ _ _ _ rfl).alloc _).alloc _) hw') (hK _ ?_); clear hK K; simp only [Act.put, List.setIfInBounds_toArray, List.set_cons_zero, List.set_cons_succ])
  go_big_quiet_step ((intro hw'; go_at_call 22; exact Calls.in_below hw' (implRing x _)))
  (refine BigFrame.wpQuiet_want rfl (fun K hK => ?_); refine quiet_load_arr Try.underlying23 iU _ rfl _ rfl (fun w' hw' => Blk.below ((Blk.new _ _ _ _ _ (by first | omega | (simp; done) | (simp; omega))).alloc _) hw') (hK _ ?_); clear hK K; simp only [Act.put, List.setIfInBounds_toArray, List.set_cons_zero, List.set_cons_succ])
  go_big_quiet_step ((intro hw'; go_at_call 22; exact Calls.in_below hw' (implRing y _)))
  go_big_quiet_step ((intro hw'; go_at_call 23; exact Calls.in_below hw' (zzRingSub x y _ HX.out HY.out)))
  go_big_quiet_step ((intro hw'; go_at_call 20; exact Calls.in_below hw' (implOfRing _ _)))
  refine wpQuiet_nil ?_
  intro w2 hb2
  have hr := Blk.below (Blk.new (g := w.heap.size + 1 + 1) _ .u32 256 (fun _ => 0) 23 (by first | omega | (simp; done) | (simp; omega))) hb2
  have hB := belowChain (((((Below.refl w.heap.size w)).alloc (by first | omega | (simp; done) | (simp; omega)) _).alloc (by first | omega | (simp; done) | (simp; omega)) _).alloc (by first | omega | (simp; done) | (simp; omega)) _) hb2 (by first | omega | (simp; done) | (simp; omega))
  go_wp2_with (first | (with_reducible refine at_store 23 _ _ rfl ?_; refine wpList_store_arr iU rfl _ _ rfl _ rfl rfl (hr) ?_))
  exact bodyPost_ret (v := .agg (arr .u32 256 fun i => (x i + 8380417 - y i) % 8380417)) (results_arr Try.underlying23 iU rfl _ _ _ rfl (hr.row _ _)) rfl ⟨rfl, below_setRow hB (by first | omega | (simp; done) | (simp; omega)) _⟩

set_option maxRecDepth 100000 in
set_option maxHeartbeats 1000000 in
theorem implNTTMul (x y : Nat → Int) (w : World) (hx : ∀ i, i < 256 → 0 ≤ x i ∧ x i < 8380417) (hy : ∀ i, i < 256 → 0 ≤ y i ∧ y i < 8380417) :
    Calls Try.prog 15 #[.agg (arr .u32 256 x), .agg (arr .u32 256 y)] w fun e w' => e = .returned (.agg (arr .u32 256 fun i => mred (x i * y i))) ∧ Below w.heap.size w w' := by
  have HX := Lib.hid hx; clear hx
  have HY := Lib.hid hy; clear hy
  go_enter Try.func15, Try.ntmps15
  go_wp2_with fail
  refine wp_region_below_tail 6 (by kernel_rfl) (by kernel_rfl) ?_
  simp only [List.take_succ_cons, List.take_zero, List.drop_succ_cons, List.drop_zero]
  (refine BigFrame.wpQuiet_want rfl (fun K hK => ?_); refine quiet_load_arr Try.underlying23 iU _ rfl _ rfl (fun w' hw' => Blk.below (((Blk.new w _ _ _ _ rfl).alloc _).alloc _) hw') (hK _ ?_); clear hK K; simp only [Act.put, List.setIfInBounds_toArray, List.set_cons_zero, List.set_cons_succ])
  go_big_quiet_step ((intro hw'; go_at_call 28; exact Calls.in_below hw' (implTransform x _)))
  (refine BigFrame.wpQuiet_want rfl (fun K hK => ?_); refine quiet_load_arr Try.underlying23 iU _ rfl _ rfl (fun w' hw' => Blk.below ((Blk.new _ _ _ _ _ (by first | omega | (simp; done) | (simp; omega))).alloc _) hw') (hK _ ?_); clear hK K; simp only [Act.put, List.setIfInBounds_toArray, List.set_cons_zero, List.set_cons_succ])
  go_big_quiet_step ((intro hw'; go_at_call 28; exact Calls.in_below hw' (implTransform y _)))
  go_big_quiet_step ((intro hw'; go_at_call 27; exact Calls.in_below hw' (zzNTTMul x y _ HX.out HY.out)))
  go_big_quiet_step ((intro hw'; go_at_call 26; exact Calls.in_below hw' (implOfTransform _ _)))
  refine wpQuiet_nil ?_
  intro w2 hb2
  have hr := Blk.below (Blk.new (g := w.heap.size + 1 + 1) _ .u32 256 (fun _ => 0) 23 (by first | omega | (simp; done) | (simp; omega))) hb2
  have hB := belowChain (((((Below.refl w.heap.size w)).alloc (by first | omega | (simp; done) | (simp; omega)) _).alloc (by first | omega | (simp; done) | (simp; omega)) _).alloc (by first | omega | (simp; done) | (simp; omega)) _) hb2 (by first | omega | (simp; done) | (simp; omega))
  go_wp2_with (first | (with_reducible refine at_store 23 _ _ rfl ?_; refine wpList_store_arr iU rfl _ _ rfl _ rfl rfl (hr) ?_))
  exact bodyPost_ret (v := .agg (arr .u32 256 fun i => mred (x i * y i))) (results_arr Try.underlying23 iU rfl _ _ _ rfl (hr.row _ _)) rfl ⟨rfl, below_setRow hB (by first | omega | (simp; done) | (simp; omega)) _⟩

set_option maxRecDepth 100000 in
set_option maxHeartbeats 1000000 in
theorem lwIsRaw (z y : Nat → Int) (w : World) (hz : ∀ i, i < 256 → 0 ≤ z i ∧ z i < 4294967296) (he : ∀ i, i < 256 → z i = y i) :
    Calls Try.prog 8 #[.agg (arr .u32 256 z), .agg (arr .i64 256 y)] w fun e w' => e = .returned (.bool true) ∧ Below w.heap.size w w' := by
  have HZ := Lib.hid hz; clear hz
  have HE := Lib.hid he; clear he
  go_enter Try.func8, Try.ntmps8
  go_wp2_with (first | (with_reducible refine at_load 23 _ rfl ?_; refine wpList_load_arr Try.underlying23 iU rfl _ rfl _ rfl ((Blk.new w _ _ _ _ rfl).alloc _) ?_))
  go_loopw [8] (fun i wr => ∃ k : Nat, k ≤ 256 ∧ i = .int .i64 k ∧ Below w.heap.size w wr ∧ Blk wr (w.heap.size + 1) .i64 256 y 25) (fun i _ => 256 - (intOf i).toNat)
  case atStart => exact ⟨0, by omega, rfl, (((Below.refl _ _).alloc (Nat.le_refl _) _).alloc (by first | omega | (simp; done) | (simp; omega)) _), Blk.new _ _ _ _ _ (by first | omega | (simp; done) | (simp; omega))⟩
  case round =>
    obtain ⟨k, hk, rfl, hb, h1⟩ := hrel
    by_cases hlt : k < 256
    · have hc := h1.cell hlt
      obtain ⟨hz0, hz1⟩ := HZ.out k hlt
      have hne : (z k != y k) = false := by simp [HE.out k hlt]
      go_wp2_with fail
      go_roundw
      case rel => exact ⟨k + 1, by omega, by go_num, hb, h1⟩
      case measure => simp [intOf]; omega
    · go_wp2_with fail
      go_ret
      exact ⟨rfl, hb⟩

set_option maxRecDepth 100000 in
set_option maxHeartbeats 1000000 in
theorem lwIs (z y : Nat → Int) (w : World) (hz : ∀ i, i < 256 → 0 ≤ z i ∧ z i < 4294967296) (he : ∀ i, i < 256 → (-4611686018427387904 ≤ y i ∧ y i < 4611686018427387904) ∧ z i = y i * 4193792 % 8380417) :
    Calls Try.prog 14 #[.agg (arr .u32 256 z), .agg (arr .i64 256 y)] w fun e w' => e = .returned (.bool true) ∧ Below w.heap.size w w' := by
  have HZ := Lib.hid hz; clear hz
  have HE := Lib.hid he; clear he
  go_enter Try.func14, Try.ntmps14
  go_wp2_with (first | (with_reducible refine at_load 23 _ rfl ?_; refine wpList_load_arr Try.underlying23 iU rfl _ rfl _ rfl ((Blk.new w _ _ _ _ rfl).alloc _) ?_))
  go_loopw [8] (fun i wr => ∃ k : Nat, k ≤ 256 ∧ i = .int .i64 k ∧ Below w.heap.size w wr ∧ Blk wr (w.heap.size + 1) .i64 256 y 25) (fun i _ => 256 - (intOf i).toNat)
  case atStart => exact ⟨0, by omega, rfl, (((Below.refl _ _).alloc (Nat.le_refl _) _).alloc (by first | omega | (simp; done) | (simp; omega)) _), Blk.new _ _ _ _ _ (by first | omega | (simp; done) | (simp; omega))⟩
  case round =>
    obtain ⟨k, hk, rfl, hb, h1⟩ := hrel
    by_cases hlt : k < 256
    · have hc := h1.cell hlt
      obtain ⟨hz0, hz1⟩ := HZ.out k hlt
      obtain ⟨⟨hy0, hy1⟩, hzy⟩ := HE.out k hlt
      have hne : (z k != y k * 4193792 % 8380417) = false := by simp [hzy]
      clear hzy
      go_wp2_with (first | (go_at_call 25; refine (spMont _ _ hy0 hy1).mono ?_; rintro e w' ⟨rfl, rfl⟩))
      go_roundw
      case rel => exact ⟨k + 1, by omega, by go_num, hb, h1⟩
      case measure => simp [intOf]; omega
    · go_wp2_with fail
      go_ret
      exact ⟨rfl, hb⟩

set_option maxRecDepth 100000 in
set_option maxHeartbeats 1000000 in
theorem walkFnRingAdd (x y : Nat → Int) (w : World) (hx : ∀ i, i < 256 → 0 ≤ x i ∧ x i < 4294967296) (hy : ∀ i, i < 256 → 0 ≤ y i ∧ y i < 4294967296) :
    Calls Try.prog 3 #[.agg (arr .u32 256 x), .agg (arr .u32 256 y)] w fun e w' => e = .returned (.bool true) ∧ Below w.heap.size w w' := by
  have HX := Lib.hid hx; clear hx
  have HY := Lib.hid hy; clear hy
  go_enter Try.func3, Try.ntmps3
  go_wp2_with (first | (with_reducible refine at_loadx 23 2 rfl ?_; refine wpList_load_arr Try.underlying23 iU rfl _ rfl _ rfl ((Blk.new w _ _ _ _ rfl).alloc _) ?_))
  refine (lwRaw x _ HX.out).mono ?_
  rintro e w1 ⟨rfl, hb1⟩
  have f0 := Blk.below ((Blk.new w .u32 256 x 23 rfl).alloc (.cells (arr .u32 256 y) 23)) hb1
  have f1 := Blk.below (Blk.new (g := w.heap.size + 1) (w.alloc (.cells (arr .u32 256 x) 23)) .u32 256 y 23 (by first | omega | (simp; done) | (simp; omega))) hb1
  have hB1 := belowChain (((Below.refl w.heap.size w).alloc (Nat.le_refl _) (.cells (arr .u32 256 x) 23)).alloc (by first | omega | (simp; done) | (simp; omega)) (.cells (arr .u32 256 y) 23)) hb1 (by first | omega | (simp; done) | (simp; omega))
  have hs1 := f1.lt
  clear hb1
  go_wp2_with (first | (with_reducible refine at_store 25 _ _ rfl ?_; refine wpList_store_arr iP rfl _ _ rfl _ rfl rfl (Blk.new _ _ _ _ _ rfl) ?_) | (with_reducible refine at_loadx 23 3 rfl ?_; refine wpList_load_arr Try.underlying23 iU rfl _ rfl _ rfl ((f1.alloc _).rowOther _ _ (by first | omega | (simp; done) | (simp; omega))) ?_))
  refine (lwRaw y _ HY.out).mono ?_
  rintro e w2 ⟨rfl, hb2⟩
  have g0 := Blk.below ((f0.alloc _).rowOther _ _ (by first | omega | (simp; done) | (simp; omega))) hb2
  have g1 := Blk.below ((f1.alloc _).rowOther _ _ (by first | omega | (simp; done) | (simp; omega))) hb2
  have ga := Blk.below ((Blk.new w1 .i64 256 (fun _ => 0) 25 rfl).row .i64 x) hb2
  have hB2 := belowChain (below_setRow (hB1.alloc (by first | omega | (simp; done) | (simp; omega)) _) (by first | omega | (simp; done) | (simp; omega)) _) hb2 (by first | omega | (simp; done) | (simp; omega))
  have hs2 := ga.lt
  clear hb2 f0 f1 hB1
  go_wp2_with (first | (with_reducible refine at_store 25 _ _ rfl ?_; refine wpList_store_arr iP rfl _ _ rfl _ rfl rfl (Blk.new _ _ _ _ _ rfl) ?_))
  have g0 := (g0.alloc (.cells (arr .i64 256 (fun _ => 0)) 25)).rowOther w2.heap.size (arr .i64 256 y) (by first | omega | (simp; done) | (simp; omega))
  have g1 := (g1.alloc (.cells (arr .i64 256 (fun _ => 0)) 25)).rowOther w2.heap.size (arr .i64 256 y) (by first | omega | (simp; done) | (simp; omega))
  have ga := (ga.alloc (.cells (arr .i64 256 (fun _ => 0)) 25)).rowOther w2.heap.size (arr .i64 256 y) (by first | omega | (simp; done) | (simp; omega))
  have gb := (Blk.new w2 .i64 256 (fun _ => 0) 25 rfl).row .i64 y
  have hB3 := below_setRow (hB2.alloc (by first | omega | (simp; done) | (simp; omega)) (.cells (arr .i64 256 (fun _ => 0)) 25)) (g := w2.heap.size) (by first | omega | (simp; done) | (simp; omega)) (arr .i64 256 y)
  cases hrx : redB x with
  | false =>
    refine wp_region_below (by kernel_rfl) (by kernel_rfl) ?_
    repeat (first | go_big_quiet_skip | (go_big_quiet_want; go_big_quiet_op; first | go_big_quiet_on | (apply Exists.intro; refine ⟨fun _ _ => rfl, ?_⟩; go_big_quiet_on)))
    refine wpQuiet_nil ?_
    intro w3 hb3
    go_wp2_with fail
    go_ret
    exact ⟨rfl, belowChain hB3 hb3 (by first | omega | (simp; done) | (simp; omega))⟩
  | true =>
    cases hry : redB y with
    | false =>
      refine wp_region_below (by kernel_rfl) (by kernel_rfl) ?_
      repeat (first | go_big_quiet_skip | (go_big_quiet_want; go_big_quiet_op; first | go_big_quiet_on | (apply Exists.intro; refine ⟨fun _ _ => rfl, ?_⟩; go_big_quiet_on)))
      refine wpQuiet_nil ?_
      intro w3 hb3
      go_wp2_with fail
      go_ret
      exact ⟨rfl, belowChain hB3 hb3 (by first | omega | (simp; done) | (simp; omega))⟩
    | true =>
      have QX := Lib.hid (fun i (hi : i < 256) => And.intro (HX.out i hi).1 (redB_true hrx i hi))
      have QY := Lib.hid (fun i (hi : i < 256) => And.intro (HY.out i hi).1 (redB_true hry i hi))
      clear hrx hry
      refine wp_region_below (by kernel_rfl) (by kernel_rfl) ?_
      (first | go_big_quiet_skip | (go_big_quiet_want; go_big_quiet_op; first | go_big_quiet_on | (apply Exists.intro; refine ⟨fun _ _ => rfl, ?_⟩; go_big_quiet_on)))
      (first | go_big_quiet_skip | (go_big_quiet_want; go_big_quiet_op; first | go_big_quiet_on | (apply Exists.intro; refine ⟨fun _ _ => rfl, ?_⟩; go_big_quiet_on)))
      (first | go_big_quiet_skip | (go_big_quiet_want; go_big_quiet_op; first | go_big_quiet_on | (apply Exists.intro; refine ⟨fun _ _ => rfl, ?_⟩; go_big_quiet_on)))
      (first | go_big_quiet_skip | (go_big_quiet_want; go_big_quiet_op; first | go_big_quiet_on | (apply Exists.intro; refine ⟨fun _ _ => rfl, ?_⟩; go_big_quiet_on)))
      (first | go_big_quiet_skip | (go_big_quiet_want; go_big_quiet_op; first | go_big_quiet_on | (apply Exists.intro; refine ⟨fun _ _ => rfl, ?_⟩; go_big_quiet_on)))
      (first | go_big_quiet_skip | (go_big_quiet_want; go_big_quiet_op; first | go_big_quiet_on | (apply Exists.intro; refine ⟨fun _ _ => rfl, ?_⟩; go_big_quiet_on)))
      (first | go_big_quiet_skip | (go_big_quiet_want; go_big_quiet_op; first | go_big_quiet_on | (apply Exists.intro; refine ⟨fun _ _ => rfl, ?_⟩; go_big_quiet_on)))
      (refine BigFrame.wpQuiet_want rfl (fun K hK => ?_); refine quiet_load_arr Try.underlying23 iU _ rfl _ rfl (fun w' hw' => Blk.below (g0) hw') (hK _ ?_); clear hK K; simp only [Act.put, List.setIfInBounds_toArray, List.set_cons_zero, List.set_cons_succ])
      (refine BigFrame.wpQuiet_want rfl (fun K hK => ?_); refine quiet_load_arr Try.underlying23 iU _ rfl _ rfl (fun w' hw' => Blk.below (g1) hw') (hK _ ?_); clear hK K; simp only [Act.put, List.setIfInBounds_toArray, List.set_cons_zero, List.set_cons_succ])
      go_big_quiet_step ((intro hw'; go_at_call 9; exact Calls.in_below hw' (implRingAdd x y _ QX.out QY.out)))
      (refine BigFrame.wpQuiet_want rfl (fun K hK => ?_); refine quiet_load_arr Try.underlying25 iP _ rfl _ rfl (fun w' hw' => Blk.below (ga) hw') (hK _ ?_); clear hK K; simp only [Act.put, List.setIfInBounds_toArray, List.set_cons_zero, List.set_cons_succ])
      (refine BigFrame.wpQuiet_want rfl (fun K hK => ?_); refine quiet_load_arr Try.underlying25 iP _ rfl _ rfl (fun w' hw' => Blk.below (gb) hw') (hK _ ?_); clear hK K; simp only [Act.put, List.setIfInBounds_toArray, List.set_cons_zero, List.set_cons_succ])
      go_big_quiet_step ((intro hw'; go_at_call 10; exact Calls.in_below hw' (spPlus x y _ QX.out QY.out)))
      go_big_quiet_step ((intro hw'; go_at_call 8; exact Calls.in_below hw' (lwIsRaw _ _ _ (fun i _ => by omega) (fun i _ => rfl))))
      (first | go_big_quiet_skip | (go_big_quiet_want; go_big_quiet_op; first | go_big_quiet_on | (apply Exists.intro; refine ⟨fun _ _ => rfl, ?_⟩; go_big_quiet_on)))
      (first | go_big_quiet_skip | (go_big_quiet_want; go_big_quiet_op; first | go_big_quiet_on | (apply Exists.intro; refine ⟨fun _ _ => rfl, ?_⟩; go_big_quiet_on)))
      refine wpQuiet_nil ?_
      intro w2 hb2
      go_wp2_with fail
      go_ret
      exact ⟨rfl, belowChain hB3 hb2 (by first | omega | (simp; done) | (simp; omega))⟩

set_option maxRecDepth 100000 in
set_option maxHeartbeats 1000000 in
theorem walkFnRingSub (x y : Nat → Int) (w : World) (hx : ∀ i, i < 256 → 0 ≤ x i ∧ x i < 4294967296) (hy : ∀ i, i < 256 → 0 ≤ y i ∧ y i < 4294967296) :
    Calls Try.prog 4 #[.agg (arr .u32 256 x), .agg (arr .u32 256 y)] w fun e w' => e = .returned (.bool true) ∧ Below w.heap.size w w' := by
  have HX := Lib.hid hx; clear hx
  have HY := Lib.hid hy; clear hy
  go_enter Try.func4, Try.ntmps4
  go_wp2_with (first | (with_reducible refine at_loadx 23 2 rfl ?_; refine wpList_load_arr Try.underlying23 iU rfl _ rfl _ rfl ((Blk.new w _ _ _ _ rfl).alloc _) ?_))
  refine (lwRaw x _ HX.out).mono ?_
  rintro e w1 ⟨rfl, hb1⟩
  have f0 := Blk.below ((Blk.new w .u32 256 x 23 rfl).alloc (.cells (arr .u32 256 y) 23)) hb1
  have f1 := Blk.below (Blk.new (g := w.heap.size + 1) (w.alloc (.cells (arr .u32 256 x) 23)) .u32 256 y 23 (by first | omega | (simp; done) | (simp; omega))) hb1
  have hB1 := belowChain (((Below.refl w.heap.size w).alloc (Nat.le_refl _) (.cells (arr .u32 256 x) 23)).alloc (by first | omega | (simp; done) | (simp; omega)) (.cells (arr .u32 256 y) 23)) hb1 (by first | omega | (simp; done) | (simp; omega))
  have hs1 := f1.lt
  clear hb1
  go_wp2_with (first | (with_reducible refine at_store 25 _ _ rfl ?_; refine wpList_store_arr iP rfl _ _ rfl _ rfl rfl (Blk.new _ _ _ _ _ rfl) ?_) | (with_reducible refine at_loadx 23 3 rfl ?_; refine wpList_load_arr Try.underlying23 iU rfl _ rfl _ rfl ((f1.alloc _).rowOther _ _ (by first | omega | (simp; done) | (simp; omega))) ?_))
  refine (lwRaw y _ HY.out).mono ?_
  rintro e w2 ⟨rfl, hb2⟩
  have g0 := Blk.below ((f0.alloc _).rowOther _ _ (by first | omega | (simp; done) | (simp; omega))) hb2
  have g1 := Blk.below ((f1.alloc _).rowOther _ _ (by first | omega | (simp; done) | (simp; omega))) hb2
  have ga := Blk.below ((Blk.new w1 .i64 256 (fun _ => 0) 25 rfl).row .i64 x) hb2
  have hB2 := belowChain (below_setRow (hB1.alloc (by first | omega | (simp; done) | (simp; omega)) _) (by first | omega | (simp; done) | (simp; omega)) _) hb2 (by first | omega | (simp; done) | (simp; omega))
  have hs2 := ga.lt
  clear hb2 f0 f1 hB1
  go_wp2_with (first | (with_reducible refine at_store 25 _ _ rfl ?_; refine wpList_store_arr iP rfl _ _ rfl _ rfl rfl (Blk.new _ _ _ _ _ rfl) ?_))
  have g0 := (g0.alloc (.cells (arr .i64 256 (fun _ => 0)) 25)).rowOther w2.heap.size (arr .i64 256 y) (by first | omega | (simp; done) | (simp; omega))
  have g1 := (g1.alloc (.cells (arr .i64 256 (fun _ => 0)) 25)).rowOther w2.heap.size (arr .i64 256 y) (by first | omega | (simp; done) | (simp; omega))
  have ga := (ga.alloc (.cells (arr .i64 256 (fun _ => 0)) 25)).rowOther w2.heap.size (arr .i64 256 y) (by first | omega | (simp; done) | (simp; omega))
  have gb := (Blk.new w2 .i64 256 (fun _ => 0) 25 rfl).row .i64 y
  have hB3 := below_setRow (hB2.alloc (by first | omega | (simp; done) | (simp; omega)) (.cells (arr .i64 256 (fun _ => 0)) 25)) (g := w2.heap.size) (by first | omega | (simp; done) | (simp; omega)) (arr .i64 256 y)
  cases hrx : redB x with
  | false =>
    refine wp_region_below (by kernel_rfl) (by kernel_rfl) ?_
    repeat (first | go_big_quiet_skip | (go_big_quiet_want; go_big_quiet_op; first | go_big_quiet_on | (apply Exists.intro; refine ⟨fun _ _ => rfl, ?_⟩; go_big_quiet_on)))
    refine wpQuiet_nil ?_
    intro w3 hb3
    go_wp2_with fail
    go_ret
    exact ⟨rfl, belowChain hB3 hb3 (by first | omega | (simp; done) | (simp; omega))⟩
  | true =>
    cases hry : redB y with
    | false =>
      refine wp_region_below (by kernel_rfl) (by kernel_rfl) ?_
      repeat (first | go_big_quiet_skip | (go_big_quiet_want; go_big_quiet_op; first | go_big_quiet_on | (apply Exists.intro; refine ⟨fun _ _ => rfl, ?_⟩; go_big_quiet_on)))
      refine wpQuiet_nil ?_
      intro w3 hb3
      go_wp2_with fail
      go_ret
      exact ⟨rfl, belowChain hB3 hb3 (by first | omega | (simp; done) | (simp; omega))⟩
    | true =>
      have QX := Lib.hid (fun i (hi : i < 256) => And.intro (HX.out i hi).1 (redB_true hrx i hi))
      have QY := Lib.hid (fun i (hi : i < 256) => And.intro (HY.out i hi).1 (redB_true hry i hi))
      clear hrx hry
      refine wp_region_below (by kernel_rfl) (by kernel_rfl) ?_
      (first | go_big_quiet_skip | (go_big_quiet_want; go_big_quiet_op; first | go_big_quiet_on | (apply Exists.intro; refine ⟨fun _ _ => rfl, ?_⟩; go_big_quiet_on)))
      (first | go_big_quiet_skip | (go_big_quiet_want; go_big_quiet_op; first | go_big_quiet_on | (apply Exists.intro; refine ⟨fun _ _ => rfl, ?_⟩; go_big_quiet_on)))
      (first | go_big_quiet_skip | (go_big_quiet_want; go_big_quiet_op; first | go_big_quiet_on | (apply Exists.intro; refine ⟨fun _ _ => rfl, ?_⟩; go_big_quiet_on)))
      (first | go_big_quiet_skip | (go_big_quiet_want; go_big_quiet_op; first | go_big_quiet_on | (apply Exists.intro; refine ⟨fun _ _ => rfl, ?_⟩; go_big_quiet_on)))
      (first | go_big_quiet_skip | (go_big_quiet_want; go_big_quiet_op; first | go_big_quiet_on | (apply Exists.intro; refine ⟨fun _ _ => rfl, ?_⟩; go_big_quiet_on)))
      (first | go_big_quiet_skip | (go_big_quiet_want; go_big_quiet_op; first | go_big_quiet_on | (apply Exists.intro; refine ⟨fun _ _ => rfl, ?_⟩; go_big_quiet_on)))
      (first | go_big_quiet_skip | (go_big_quiet_want; go_big_quiet_op; first | go_big_quiet_on | (apply Exists.intro; refine ⟨fun _ _ => rfl, ?_⟩; go_big_quiet_on)))
      (refine BigFrame.wpQuiet_want rfl (fun K hK => ?_); refine quiet_load_arr Try.underlying23 iU _ rfl _ rfl (fun w' hw' => Blk.below (g0) hw') (hK _ ?_); clear hK K; simp only [Act.put, List.setIfInBounds_toArray, List.set_cons_zero, List.set_cons_succ])
      (refine BigFrame.wpQuiet_want rfl (fun K hK => ?_); refine quiet_load_arr Try.underlying23 iU _ rfl _ rfl (fun w' hw' => Blk.below (g1) hw') (hK _ ?_); clear hK K; simp only [Act.put, List.setIfInBounds_toArray, List.set_cons_zero, List.set_cons_succ])
      go_big_quiet_step ((intro hw'; go_at_call 11; exact Calls.in_below hw' (implRingSub x y _ QX.out QY.out)))
      (refine BigFrame.wpQuiet_want rfl (fun K hK => ?_); refine quiet_load_arr Try.underlying25 iP _ rfl _ rfl (fun w' hw' => Blk.below (ga) hw') (hK _ ?_); clear hK K; simp only [Act.put, List.setIfInBounds_toArray, List.set_cons_zero, List.set_cons_succ])
      (refine BigFrame.wpQuiet_want rfl (fun K hK => ?_); refine quiet_load_arr Try.underlying25 iP _ rfl _ rfl (fun w' hw' => Blk.below (gb) hw') (hK _ ?_); clear hK K; simp only [Act.put, List.setIfInBounds_toArray, List.set_cons_zero, List.set_cons_succ])
      go_big_quiet_step ((intro hw'; go_at_call 12; exact Calls.in_below hw' (spMinus x y _ QX.out QY.out)))
      go_big_quiet_step ((intro hw'; go_at_call 8; exact Calls.in_below hw' (lwIsRaw _ _ _ (fun i _ => by omega) (fun i _ => rfl))))
      (first | go_big_quiet_skip | (go_big_quiet_want; go_big_quiet_op; first | go_big_quiet_on | (apply Exists.intro; refine ⟨fun _ _ => rfl, ?_⟩; go_big_quiet_on)))
      (first | go_big_quiet_skip | (go_big_quiet_want; go_big_quiet_op; first | go_big_quiet_on | (apply Exists.intro; refine ⟨fun _ _ => rfl, ?_⟩; go_big_quiet_on)))
      refine wpQuiet_nil ?_
      intro w2 hb2
      go_wp2_with fail
      go_ret
      exact ⟨rfl, belowChain hB3 hb2 (by first | omega | (simp; done) | (simp; omega))⟩

set_option maxRecDepth 100000 in
set_option maxHeartbeats 1000000 in
theorem walkFnNTTMul (x y : Nat → Int) (w : World) (hx : ∀ i, i < 256 → 0 ≤ x i ∧ x i < 4294967296) (hy : ∀ i, i < 256 → 0 ≤ y i ∧ y i < 4294967296) :
    Calls Try.prog 5 #[.agg (arr .u32 256 x), .agg (arr .u32 256 y)] w fun e w' => e = .returned (.bool true) ∧ Below w.heap.size w w' := by
  have HX := Lib.hid hx; clear hx
  have HY := Lib.hid hy; clear hy
  go_enter Try.func5, Try.ntmps5
  go_wp2_with (first | (with_reducible refine at_loadx 23 2 rfl ?_; refine wpList_load_arr Try.underlying23 iU rfl _ rfl _ rfl ((Blk.new w _ _ _ _ rfl).alloc _) ?_))
  refine (lwPlain x _ HX.out).mono ?_
  rintro e w1 ⟨rfl, hb1⟩
  have f0 := Blk.below ((Blk.new w .u32 256 x 23 rfl).alloc (.cells (arr .u32 256 y) 23)) hb1
  have f1 := Blk.below (Blk.new (g := w.heap.size + 1) (w.alloc (.cells (arr .u32 256 x) 23)) .u32 256 y 23 (by first | omega | (simp; done) | (simp; omega))) hb1
  have hB1 := belowChain (((Below.refl w.heap.size w).alloc (Nat.le_refl _) (.cells (arr .u32 256 x) 23)).alloc (by first | omega | (simp; done) | (simp; omega)) (.cells (arr .u32 256 y) 23)) hb1 (by first | omega | (simp; done) | (simp; omega))
  have hs1 := f1.lt
  clear hb1
  go_wp2_with (first | (with_reducible refine at_store 25 _ _ rfl ?_; refine wpList_store_arr iP rfl _ _ rfl _ rfl rfl (Blk.new _ _ _ _ _ rfl) ?_) | (with_reducible refine at_loadx 23 3 rfl ?_; refine wpList_load_arr Try.underlying23 iU rfl _ rfl _ rfl ((f1.alloc _).rowOther _ _ (by first | omega | (simp; done) | (simp; omega))) ?_))
  refine (lwPlain y _ HY.out).mono ?_
  rintro e w2 ⟨rfl, hb2⟩
  have g0 := Blk.below ((f0.alloc _).rowOther _ _ (by first | omega | (simp; done) | (simp; omega))) hb2
  have g1 := Blk.below ((f1.alloc _).rowOther _ _ (by first | omega | (simp; done) | (simp; omega))) hb2
  have ga := Blk.below ((Blk.new w1 .i64 256 (fun _ => 0) 25 rfl).row .i64 (fun i => mred (x i))) hb2
  have hB2 := belowChain (below_setRow (hB1.alloc (by first | omega | (simp; done) | (simp; omega)) _) (by first | omega | (simp; done) | (simp; omega)) _) hb2 (by first | omega | (simp; done) | (simp; omega))
  have hs2 := ga.lt
  clear hb2 f0 f1 hB1
  go_wp2_with (first | (with_reducible refine at_store 25 _ _ rfl ?_; refine wpList_store_arr iP rfl _ _ rfl _ rfl rfl (Blk.new _ _ _ _ _ rfl) ?_))
  have g0 := (g0.alloc (.cells (arr .i64 256 (fun _ => 0)) 25)).rowOther w2.heap.size (arr .i64 256 (fun i => mred (y i))) (by first | omega | (simp; done) | (simp; omega))
  have g1 := (g1.alloc (.cells (arr .i64 256 (fun _ => 0)) 25)).rowOther w2.heap.size (arr .i64 256 (fun i => mred (y i))) (by first | omega | (simp; done) | (simp; omega))
  have ga := (ga.alloc (.cells (arr .i64 256 (fun _ => 0)) 25)).rowOther w2.heap.size (arr .i64 256 (fun i => mred (y i))) (by first | omega | (simp; done) | (simp; omega))
  have gb := (Blk.new w2 .i64 256 (fun _ => 0) 25 rfl).row .i64 (fun i => mred (y i))
  have hB3 := below_setRow (hB2.alloc (by first | omega | (simp; done) | (simp; omega)) (.cells (arr .i64 256 (fun _ => 0)) 25)) (g := w2.heap.size) (by first | omega | (simp; done) | (simp; omega)) (arr .i64 256 (fun i => mred (y i)))
  cases hrx : redB x with
  | false =>
    refine wp_region_below (by kernel_rfl) (by kernel_rfl) ?_
    repeat (first | go_big_quiet_skip | (go_big_quiet_want; go_big_quiet_op; first | go_big_quiet_on | (apply Exists.intro; refine ⟨fun _ _ => rfl, ?_⟩; go_big_quiet_on)))
    refine wpQuiet_nil ?_
    intro w3 hb3
    go_wp2_with fail
    go_ret
    exact ⟨rfl, belowChain hB3 hb3 (by first | omega | (simp; done) | (simp; omega))⟩
  | true =>
    cases hry : redB y with
    | false =>
      refine wp_region_below (by kernel_rfl) (by kernel_rfl) ?_
      repeat (first | go_big_quiet_skip | (go_big_quiet_want; go_big_quiet_op; first | go_big_quiet_on | (apply Exists.intro; refine ⟨fun _ _ => rfl, ?_⟩; go_big_quiet_on)))
      refine wpQuiet_nil ?_
      intro w3 hb3
      go_wp2_with fail
      go_ret
      exact ⟨rfl, belowChain hB3 hb3 (by first | omega | (simp; done) | (simp; omega))⟩
    | true =>
      have QX := Lib.hid (fun i (hi : i < 256) => And.intro (HX.out i hi).1 (redB_true hrx i hi))
      have QY := Lib.hid (fun i (hi : i < 256) => And.intro (HY.out i hi).1 (redB_true hry i hi))
      clear hrx hry
      refine wp_region_below (by kernel_rfl) (by kernel_rfl) ?_
      (first | go_big_quiet_skip | (go_big_quiet_want; go_big_quiet_op; first | go_big_quiet_on | (apply Exists.intro; refine ⟨fun _ _ => rfl, ?_⟩; go_big_quiet_on)))
      (first | go_big_quiet_skip | (go_big_quiet_want; go_big_quiet_op; first | go_big_quiet_on | (apply Exists.intro; refine ⟨fun _ _ => rfl, ?_⟩; go_big_quiet_on)))
      (first | go_big_quiet_skip | (go_big_quiet_want; go_big_quiet_op; first | go_big_quiet_on | (apply Exists.intro; refine ⟨fun _ _ => rfl, ?_⟩; go_big_quiet_on)))
      (first | go_big_quiet_skip | (go_big_quiet_want; go_big_quiet_op; first | go_big_quiet_on | (apply Exists.intro; refine ⟨fun _ _ => rfl, ?_⟩; go_big_quiet_on)))
      (first | go_big_quiet_skip | (go_big_quiet_want; go_big_quiet_op; first | go_big_quiet_on | (apply Exists.intro; refine ⟨fun _ _ => rfl, ?_⟩; go_big_quiet_on)))
      (first | go_big_quiet_skip | (go_big_quiet_want; go_big_quiet_op; first | go_big_quiet_on | (apply Exists.intro; refine ⟨fun _ _ => rfl, ?_⟩; go_big_quiet_on)))
      (first | go_big_quiet_skip | (go_big_quiet_want; go_big_quiet_op; first | go_big_quiet_on | (apply Exists.intro; refine ⟨fun _ _ => rfl, ?_⟩; go_big_quiet_on)))
      (refine BigFrame.wpQuiet_want rfl (fun K hK => ?_); refine quiet_load_arr Try.underlying23 iU _ rfl _ rfl (fun w' hw' => Blk.below (g0) hw') (hK _ ?_); clear hK K; simp only [Act.put, List.setIfInBounds_toArray, List.set_cons_zero, List.set_cons_succ])
      (refine BigFrame.wpQuiet_want rfl (fun K hK => ?_); refine quiet_load_arr Try.underlying23 iU _ rfl _ rfl (fun w' hw' => Blk.below (g1) hw') (hK _ ?_); clear hK K; simp only [Act.put, List.setIfInBounds_toArray, List.set_cons_zero, List.set_cons_succ])
      go_big_quiet_step ((intro hw'; go_at_call 15; exact Calls.in_below hw' (implNTTMul x y _ QX.out QY.out)))
      (refine BigFrame.wpQuiet_want rfl (fun K hK => ?_); refine quiet_load_arr Try.underlying25 iP _ rfl _ rfl (fun w' hw' => Blk.below (ga) hw') (hK _ ?_); clear hK K; simp only [Act.put, List.setIfInBounds_toArray, List.set_cons_zero, List.set_cons_succ])
      (refine BigFrame.wpQuiet_want rfl (fun K hK => ?_); refine quiet_load_arr Try.underlying25 iP _ rfl _ rfl (fun w' hw' => Blk.below (gb) hw') (hK _ ?_); clear hK K; simp only [Act.put, List.setIfInBounds_toArray, List.set_cons_zero, List.set_cons_succ])
      go_big_quiet_step ((intro hw'; go_at_call 16; exact Calls.in_below hw' (spTimes (fun i => mred (x i)) (fun i => mred (y i)) _ (fun i _ => ⟨mred_lo _, mred_hi _⟩) (fun i _ => ⟨mred_lo _, mred_hi _⟩))))
      go_big_quiet_step ((intro hw'; go_at_call 14; exact Calls.in_below hw' (lwIs _ _ _ (fun i _ => ⟨mred_lo _, by have := mred_hi (x i * y i); omega⟩) (fun i _ => ⟨by omega, mred_mul _ _⟩))))
      (first | go_big_quiet_skip | (go_big_quiet_want; go_big_quiet_op; first | go_big_quiet_on | (apply Exists.intro; refine ⟨fun _ _ => rfl, ?_⟩; go_big_quiet_on)))
      (first | go_big_quiet_skip | (go_big_quiet_want; go_big_quiet_op; first | go_big_quiet_on | (apply Exists.intro; refine ⟨fun _ _ => rfl, ?_⟩; go_big_quiet_on)))
      refine wpQuiet_nil ?_
      intro w2 hb2
      go_wp2_with fail
      go_ret
      exact ⟨rfl, belowChain hB3 hb2 (by first | omega | (simp; done) | (simp; omega))⟩

def nstep (m c : Int) : Int := if (if m < c then c else m) < -c then -c else (if m < c then c else m)
/-- The greatest magnitude of the first k numbers, centred. -/
def normTo (z : Nat → Int) : Nat → Int
  | 0 => 0
  | k + 1 => nstep (normTo z k) (cen (z k) 8380417)
theorem nstep_le (m c b : Int) : b ≤ nstep m c ↔ b ≤ m ∨ b ≤ max c (-c) := by
  unfold nstep
  split <;> split <;> omega
theorem normTo_le (z : Nat → Int) (b : Int) (k : Nat) : b ≤ normTo z k ↔ b ≤ 0 ∨ ∃ i, i < k ∧ b ≤ max (cen (z i) 8380417) (-cen (z i) 8380417) := by
  induction k with
  | zero => simp [normTo]
  | succ k ih =>
    rw [normTo, nstep_le, ih]
    constructor
    · rintro ((h | ⟨i, hi, h⟩) | h)
      · exact .inl h
      · exact .inr ⟨i, by omega, h⟩
      · exact .inr ⟨k, by omega, h⟩
    · rintro (h | ⟨i, hi, h⟩)
      · exact .inl (.inl h)
      · by_cases e : i = k
        · subst e; exact .inr h
        · exact .inl (.inr ⟨i, by omega, h⟩)
theorem normTo_bd (z : Nat → Int) (k : Nat) : 0 ≤ normTo z k ∧ normTo z k ≤ 8380417 := by
  induction k with
  | zero => simp [normTo]
  | succ k ih =>
    obtain ⟨h1, h2⟩ := cen_bd (z k) 8380417 (by omega)
    rw [normTo]
    unfold nstep
    split <;> split <;> omega
theorem magn_nn (c : Int) : 0 ≤ max c (-c) := by omega

set_option maxRecDepth 100000 in
set_option maxHeartbeats 1000000 in
theorem spNorm (z : Nat → Int) (w : World) (hz : ∀ i, i < 256 → 0 ≤ z i ∧ z i < 8380417) :
    Calls Try.prog 18 #[.agg (arr .i64 256 z)] w fun e w' => e = .returned (.int .i64 (normTo z 256)) ∧ Below w.heap.size w w' := by
  have HZ := Lib.hid hz; clear hz
  go_enter Try.func18, Try.ntmps18
  go_wp2_with (first | (with_reducible refine at_load 25 _ rfl ?_; refine wpList_load_arr Try.underlying25 iP rfl _ rfl _ rfl (Blk.new w _ _ _ _ rfl) ?_))
  go_loopw [8, 3] (fun i s wr => ∃ (k : Nat) (m : Int), k ≤ 256 ∧ i = .int .i64 k ∧ s = .int .i64 m ∧ 0 ≤ m ∧ m ≤ 8380417 ∧ Hid (m = normTo z k) ∧ Below w.heap.size w wr) (fun i _ _ => 256 - (intOf i).toNat)
  case atStart => exact ⟨0, 0, by omega, rfl, rfl, by omega, by omega, Lib.hid rfl, ((Below.refl _ _).alloc (Nat.le_refl _) _)⟩
  case round =>
    obtain ⟨k, m, hk, rfl, rfl, hm0, hm1, hm, hb⟩ := hrel
    by_cases hlt : k < 256
    · obtain ⟨hz0, hz1⟩ := HZ.out k hlt
      obtain ⟨hc0, hc1⟩ := cen_bd (z k) 8380417 (by omega)
      go_wp2_with (first | (go_at_call 30; refine (spCentred _ _ _ (by omega) (by omega) (by omega) (by omega)).mono ?_; rintro e w' ⟨rfl, rfl⟩))
      go_roundw
      case rel =>
        have hn : normTo z (k + 1) = nstep m (cen (z k) 8380417) := by rw [normTo, ← hm.out]
        obtain ⟨hn0, hn1⟩ := normTo_bd z (k + 1)
        exact ⟨k + 1, normTo z (k + 1), by omega, by go_num, by rw [hn]; rfl, hn0, hn1, Lib.hid rfl, hb⟩
      case measure => simp [intOf]; omega
    · obtain rfl : k = 256 := by omega
      go_wp2_with fail
      go_ret
      exact ⟨ret_int hm.out, hb⟩

set_option maxRecDepth 100000 in
set_option maxHeartbeats 1000000 in
theorem coefExceed (x : Nat → Int) (b : Int) (w : World) (hx : ∀ i, i < 256 → 0 ≤ x i ∧ x i < 8380417) (b0 : 0 ≤ b) (b1 : b < 4294967296) :
    Calls Try.prog 36 #[.agg (arr .u32 256 x), .int .u32 b] w fun e w' => e = .returned (.bool (decide (b ≤ normTo (fun i => mred (x i)) 256))) ∧ Below w.heap.size w w' := by
  have HX := Lib.hid hx; clear hx
  go_enter Try.func36, Try.ntmps36
  go_wp2_with fail
  go_loopw [6] (fun i wr => ∃ (k : Nat), k ≤ 256 ∧ i = .int .i64 k ∧ Hid (∀ j, j < k → max (cen (mred (x j)) 8380417) (-cen (mred (x j)) 8380417) < b) ∧ Below w.heap.size w wr ∧ Blk wr w.heap.size .u32 256 x 39) (fun i _ => 256 - (intOf i).toNat)
  case atStart => exact ⟨0, by omega, rfl, Lib.hid (fun j hj => by omega), ((Below.refl _ _).alloc (Nat.le_refl _) _), Blk.new _ _ _ _ _ rfl⟩
  case round =>
    obtain ⟨k, hk, rfl, hall, hb, h0⟩ := hrel
    by_cases hlt : k < 256
    · obtain ⟨hx0, hx1⟩ := HX.out k hlt
      have hc := h0.cell hlt
      by_cases hbd : b ≤ max (cen (mred (x k)) 8380417) (-cen (mred (x k)) 8380417)
      · go_wp2_with (first | (go_at_call 40; refine (infNorm _ _ hx0 (by omega)).mono ?_; rintro e w' ⟨rfl, rfl⟩))
        go_ret
        refine ⟨ret_bool ?_, hb⟩
        symm
        rw [decide_eq_true_iff, normTo_le]
        exact .inr ⟨k, hlt, hbd⟩
      · go_wp2_with (first | (go_at_call 40; refine (infNorm _ _ hx0 (by omega)).mono ?_; rintro e w' ⟨rfl, rfl⟩))
        go_roundw
        case rel => exact ⟨k + 1, by omega, by go_num, Lib.hid (fun j hj => by
          by_cases e : j = k
          · subst e; omega
          · exact hall.out j (by omega)), hb, h0⟩
        case measure => simp [intOf]; omega
    · obtain rfl : k = 256 := by omega
      go_wp2_with fail
      go_ret
      refine ⟨ret_bool ?_, hb⟩
      symm
      rw [decide_eq_false_iff_not, normTo_le]
      rintro (h | ⟨i, hi, h⟩)
      · have h1 := hall.out 0 (by omega)
        have h2 := magn_nn (cen (mred (x 0)) 8380417)
        omega
      · have := hall.out i hi
        omega

set_option maxRecDepth 100000 in
set_option maxHeartbeats 1000000 in
theorem zzCoefExceed (x : Nat → Int) (b : Int) (w : World) (hx : ∀ i, i < 256 → 0 ≤ x i ∧ x i < 8380417) (b0 : 0 ≤ b) (b1 : b < 4294967296) :
    Calls Try.prog 29 #[.agg (arr .u32 256 x), .int .u32 b] w fun e w' => e = .returned (.bool (decide (b ≤ normTo (fun i => mred (x i)) 256))) ∧ Below w.heap.size w w' := by
  go_enter Try.func29, Try.ntmps29
  go_wp2_with (first | (with_reducible refine at_load 39 _ rfl ?_; refine wpList_load_arr Try.underlying39 iR rfl _ rfl _ rfl (Blk.new w _ _ _ _ rfl) ?_))
  refine (coefExceed x b _ hx b0 b1).mono ?_
  rintro e w1 ⟨rfl, hb1⟩
  go_wp2_with fail
  go_ret
  exact ⟨rfl, belowChain ((Below.refl _ _).alloc (Nat.le_refl _) _) hb1 (by first | omega | (simp; done) | (simp; omega))⟩
set_option maxRecDepth 100000 in
set_option maxHeartbeats 1000000 in
theorem implCoefExceed (x : Nat → Int) (b : Int) (w : World) (hx : ∀ i, i < 256 → 0 ≤ x i ∧ x i < 8380417) (b0 : 0 ≤ b) (b1 : b < 4294967296) :
    Calls Try.prog 17 #[.agg (arr .u32 256 x), .int .u32 b] w fun e w' => e = .returned (.bool (decide (b ≤ normTo (fun i => mred (x i)) 256))) ∧ Below w.heap.size w w' := by
  go_enter Try.func17, Try.ntmps17
  go_wp2_with (first | (with_reducible refine at_load 23 _ rfl ?_; refine wpList_load_arr Try.underlying23 iU rfl _ rfl _ rfl (Blk.new w _ _ _ _ rfl) ?_))
  refine (implRing x _).mono ?_
  rintro e w1 ⟨rfl, hb1⟩
  go_wp2_with fail
  refine (zzCoefExceed x b _ hx b0 b1).mono ?_
  rintro e w2 ⟨rfl, hb2⟩
  go_wp2_with fail
  go_ret
  exact ⟨rfl, belowChain (belowChain ((Below.refl _ _).alloc (Nat.le_refl _) _) hb1 (by first | omega | (simp; done) | (simp; omega))) hb2 (Nat.le_trans (by first | omega | (simp; done) | (simp; omega)) hb1.size)⟩

set_option maxRecDepth 100000 in
set_option maxHeartbeats 1000000 in
theorem walkFnCoefficientsExceedBound (x : Nat → Int) (b : Int) (w : World) (hx : ∀ i, i < 256 → 0 ≤ x i ∧ x i < 4294967296) (b0 : 0 ≤ b) (b1 : b < 4294967296) :
    Calls Try.prog 6 #[.agg (arr .u32 256 x), .int .u32 b] w fun e w' => e = .returned (.bool true) ∧ Below w.heap.size w w' := by
  have HX := Lib.hid hx; clear hx
  go_enter Try.func6, Try.ntmps6
  go_wp2_with (first | (with_reducible refine at_load 23 _ rfl ?_; refine wpList_load_arr Try.underlying23 iU rfl _ rfl _ rfl (Blk.new w _ _ _ _ rfl) ?_))
  refine (lwPlain x _ HX.out).mono ?_
  rintro e w1 ⟨rfl, hb1⟩
  have g0 := Blk.below (Blk.new w .u32 256 x 23 rfl) hb1
  have hB1 := belowChain ((Below.refl w.heap.size w).alloc (Nat.le_refl _) (.cells (arr .u32 256 x) 23)) hb1 (by first | omega | (simp; done) | (simp; omega))
  have hs1 := g0.lt
  clear hb1
  go_wp2_with (first | (with_reducible refine at_store 25 _ _ rfl ?_; refine wpList_store_arr iP rfl _ _ rfl _ rfl rfl (Blk.new _ _ _ _ _ rfl) ?_))
  have g0 := (g0.alloc (.cells (arr .i64 256 (fun _ => 0)) 25)).rowOther w1.heap.size (arr .i64 256 (fun i => mred (x i))) (by first | omega | (simp; done) | (simp; omega))
  have ga := (Blk.new w1 .i64 256 (fun _ => 0) 25 rfl).row .i64 (fun i => mred (x i))
  have hB3 := below_setRow (hB1.alloc (by first | omega | (simp; done) | (simp; omega)) (.cells (arr .i64 256 (fun _ => 0)) 25)) (g := w1.heap.size) (by first | omega | (simp; done) | (simp; omega)) (arr .i64 256 (fun i => mred (x i)))
  cases hrx : redB x with
  | false =>
    refine wp_region_below (by kernel_rfl) (by kernel_rfl) ?_
    repeat (first | go_big_quiet_skip | (go_big_quiet_want; go_big_quiet_op; first | go_big_quiet_on | (apply Exists.intro; refine ⟨fun _ _ => rfl, ?_⟩; go_big_quiet_on)))
    refine wpQuiet_nil ?_
    intro w3 hb3
    go_wp2_with fail
    go_ret
    exact ⟨rfl, belowChain hB3 hb3 (by first | omega | (simp; done) | (simp; omega))⟩
  | true =>
    have QX := Lib.hid (fun i (hi : i < 256) => And.intro (HX.out i hi).1 (redB_true hrx i hi))
    clear hrx
    refine wp_region_below (by kernel_rfl) (by kernel_rfl) ?_
    (first | go_big_quiet_skip | (go_big_quiet_want; go_big_quiet_op; first | go_big_quiet_on | (apply Exists.intro; refine ⟨fun _ _ => rfl, ?_⟩; go_big_quiet_on)))
    (first | go_big_quiet_skip | (go_big_quiet_want; go_big_quiet_op; first | go_big_quiet_on | (apply Exists.intro; refine ⟨fun _ _ => rfl, ?_⟩; go_big_quiet_on)))
    (first | go_big_quiet_skip | (go_big_quiet_want; go_big_quiet_op; first | go_big_quiet_on | (apply Exists.intro; refine ⟨fun _ _ => rfl, ?_⟩; go_big_quiet_on)))
    (refine BigFrame.wpQuiet_want rfl (fun K hK => ?_); refine quiet_load_arr Try.underlying23 iU _ rfl _ rfl (fun w' hw' => Blk.below (g0) hw') (hK _ ?_); clear hK K; simp only [Act.put, List.setIfInBounds_toArray, List.set_cons_zero, List.set_cons_succ])
    (first | go_big_quiet_skip | (go_big_quiet_want; go_big_quiet_op; first | go_big_quiet_on | (apply Exists.intro; refine ⟨fun _ _ => rfl, ?_⟩; go_big_quiet_on)))
    go_big_quiet_step ((intro hw'; go_at_call 17; exact Calls.in_below hw' (implCoefExceed x b _ QX.out b0 b1)))
    (refine BigFrame.wpQuiet_want rfl (fun K hK => ?_); refine quiet_load_arr Try.underlying25 iP _ rfl _ rfl (fun w' hw' => Blk.below (ga) hw') (hK _ ?_); clear hK K; simp only [Act.put, List.setIfInBounds_toArray, List.set_cons_zero, List.set_cons_succ])
    go_big_quiet_step ((intro hw'; go_at_call 18; exact Calls.in_below hw' (spNorm _ _ (fun i _ => ⟨mred_lo _, mred_hi _⟩))))
    (first | go_big_quiet_skip | (go_big_quiet_want; go_big_quiet_op; first | go_big_quiet_on | (apply Exists.intro; refine ⟨fun _ _ => rfl, ?_⟩; go_big_quiet_on)))
    (first | go_big_quiet_skip | (go_big_quiet_want; go_big_quiet_op; first | go_big_quiet_on | (apply Exists.intro; refine ⟨fun _ _ => rfl, ?_⟩; go_big_quiet_on)))
    (first | go_big_quiet_skip | (go_big_quiet_want; go_big_quiet_op; first | go_big_quiet_on | (apply Exists.intro; refine ⟨fun _ _ => rfl, ?_⟩; go_big_quiet_on)))
    (first | go_big_quiet_skip | (go_big_quiet_want; go_big_quiet_op; first | go_big_quiet_on | (apply Exists.intro; refine ⟨fun _ _ => rfl, ?_⟩; go_big_quiet_on)))
    (first | go_big_quiet_skip | (go_big_quiet_want; go_big_quiet_op; first | go_big_quiet_on | (apply Exists.intro; refine ⟨fun _ _ => rfl, ?_⟩; go_big_quiet_on)))
    (first | go_big_quiet_skip | (go_big_quiet_want; go_big_quiet_op; first | go_big_quiet_on | (apply Exists.intro; refine ⟨fun _ _ => rfl, ?_⟩; go_big_quiet_on)))
    refine wpQuiet_nil ?_
    intro w2 hb2
    go_wp2_with fail
    go_ret
    exact ⟨rfl, belowChain hB3 hb2 (by first | omega | (simp; done) | (simp; omega))⟩

end Go.Proofs.Ytkckbfjimlmjhaa
