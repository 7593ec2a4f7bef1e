/-
  Contracts of the functions on whole polynomials: the thin package's conversions, sums, differences and products, the reference's own, and the laws' readings.
-/
import Derived.Test.YtpfabgmoadljnaaDoorReduced
import Derived.Test.YtpfabgmoadljnaaDoorRound
import Derived.Test.YtpfabgmoadljnaaDoorArr
import Derived.Test.YtpfabgmoadljnaaDoorRegion
namespace Go.Proofs.YtpfabgmoadljnaaDoor
open Go.RowKit

theorem iR : (Tryd.prog.info? 50).map (·.size) = some 256 := by kernel_rfl
@[go_sem] theorem zR (w : World) : (zeroValue 50).run Tryd.prog w = .ok (.agg (arr .u32 256 fun _ => 0)) w := zero_arr (by kernel_rfl) w
@[go_sem] theorem ixR (z : Nat → Int) (i : Nat) (w : World) (h : i < 256) : (Instr.index 50 (.agg (arr .u32 256 z)) (.int .i64 (i : Int))).run Tryd.prog w = .ok (.int .u32 (z i)) w :=
  run_index_arr Tryd.underlying50 Tryd.isAgg46 Tryd.sizeOf46 z i h w
@[go_sem] theorem bdR (w : World) : (Instr.build 50 #[]).run Tryd.prog w = .ok (.agg (arr .u32 256 fun _ => 0)) w := build_arr (by kernel_rfl) w

theorem iN : (Tryd.prog.info? 48).map (·.size) = some 256 := by kernel_rfl
@[go_sem] theorem zN (w : World) : (zeroValue 48).run Tryd.prog w = .ok (.agg (arr .u32 256 fun _ => 0)) w := zero_arr (by kernel_rfl) w
@[go_sem] theorem ixN (z : Nat → Int) (i : Nat) (w : World) (h : i < 256) : (Instr.index 48 (.agg (arr .u32 256 z)) (.int .i64 (i : Int))).run Tryd.prog w = .ok (.int .u32 (z i)) w :=
  run_index_arr Tryd.underlying48 Tryd.isAgg46 Tryd.sizeOf46 z i h w
@[go_sem] theorem bdN (w : World) : (Instr.build 48 #[]).run Tryd.prog w = .ok (.agg (arr .u32 256 fun _ => 0)) w := build_arr (by kernel_rfl) w

theorem iU : (Tryd.prog.info? 23).map (·.size) = some 256 := by kernel_rfl
@[go_sem] theorem zU (w : World) : (zeroValue 23).run Tryd.prog w = .ok (.agg (arr .u32 256 fun _ => 0)) w := zero_arr (by kernel_rfl) w
@[go_sem] theorem ixU (z : Nat → Int) (i : Nat) (w : World) (h : i < 256) : (Instr.index 23 (.agg (arr .u32 256 z)) (.int .i64 (i : Int))).run Tryd.prog w = .ok (.int .u32 (z i)) w :=
  run_index_arr Tryd.underlying23 Tryd.isAgg22 Tryd.sizeOf22 z i h w
@[go_sem] theorem bdU (w : World) : (Instr.build 23 #[]).run Tryd.prog w = .ok (.agg (arr .u32 256 fun _ => 0)) w := build_arr (by kernel_rfl) w

theorem iP : (Tryd.prog.info? 25).map (·.size) = some 256 := by kernel_rfl
@[go_sem] theorem zP (w : World) : (zeroValue 25).run Tryd.prog w = .ok (.agg (arr .i64 256 fun _ => 0)) w := zero_arr (by kernel_rfl) w
@[go_sem] theorem ixP (z : Nat → Int) (i : Nat) (w : World) (h : i < 256) : (Instr.index 25 (.agg (arr .i64 256 z)) (.int .i64 (i : Int))).run Tryd.prog w = .ok (.int .i64 (z i)) w :=
  run_index_arr Tryd.underlying25 Tryd.isAgg3 Tryd.sizeOf3 z i h w
@[go_sem] theorem bdP (w : World) : (Instr.build 25 #[]).run Tryd.prog w = .ok (.agg (arr .i64 256 fun _ => 0)) w := build_arr (by kernel_rfl) w


theorem iW : (Tryd.prog.info? 41).map (·.size) = some 256 := by kernel_rfl
@[go_sem] theorem zW (w : World) : (zeroValue 41).run Tryd.prog w = .ok (.agg (arr .u16 256 fun _ => 0)) w := zero_arr (by kernel_rfl) w
@[go_sem] theorem ixW (z : Nat → Int) (i : Nat) (w : World) (h : i < 256) : (Instr.index 41 (.agg (arr .u16 256 z)) (.int .i64 (i : Int))).run Tryd.prog w = .ok (.int .u16 (z i)) w :=
  run_index_arr Tryd.underlying41 Tryd.isAgg38 Tryd.sizeOf38 z i h w
@[go_sem] theorem bdW (w : World) : (Instr.build 41 #[]).run Tryd.prog w = .ok (.agg (arr .u16 256 fun _ => 0)) w := build_arr (by kernel_rfl) w

set_option maxRecDepth 100000 in
set_option maxHeartbeats 1000000 in
theorem implRing (z : Nat → Int) (w : World) :
    Calls Tryd.prog 25 #[.agg (arr .u32 256 z)] w fun e w' => e = .returned (.agg (arr .u32 256 z)) ∧ Below w.heap.size w w' := by
  go_enter Tryd.func25, Tryd.ntmps25
  go_wp2_with (first | (with_reducible refine at_load 23 _ rfl ?_; refine wpList_load_arr Tryd.underlying23 iU rfl _ rfl _ rfl (((Blk.new w _ _ _ _ rfl).alloc _).alloc _) ?_))
  go_loopw [7] (fun i wr => ∃ k : Nat, k ≤ 256 ∧ i = .int .i64 k ∧ Below w.heap.size w wr ∧ Blk wr (w.heap.size + 1 + 1) .u32 256 (fun j => if j < k then z j else 0) 50 ∧ Blk wr (w.heap.size + 1) .u32 256 (fun _ => 0) 50) (fun i _ => 256 - (intOf i).toNat)
  case atStart => exact ⟨0, by omega, rfl, (((Below.refl _ _).alloc (Nat.le_refl _) _).alloc (by first | omega | (simp; done) | (simp; omega)) _).alloc (by first | omega | (simp; done) | (simp; omega)) _, (Blk.new _ _ _ _ _ (by first | omega | (simp; done) | (simp; omega))).start _, (Blk.new _ _ _ _ _ (by first | omega | (simp; done) | (simp; omega))).alloc _⟩
  case round =>
    obtain ⟨k, hk, rfl, hb, h2, h1⟩ := hrel
    by_cases hlt : k < 256
    · have hc := h2.cell hlt
      have hf := h2.frozen k
      go_wp2_with fail
      go_roundw
      case rel => exact ⟨k + 1, by omega, by go_num, hb.setCell (by first | omega | (simp; done) | (simp; omega)) _, h2.fill, h1.other _ _ (by first | omega | (simp; done) | (simp; omega))⟩
      case measure => simp [intOf]; omega
    · obtain rfl : k = 256 := by omega
      have h2 := h2.full
      go_wp2_with (first | (with_reducible refine at_load 50 _ rfl ?_; refine wpList_load_arr Tryd.underlying50 iR rfl _ rfl _ rfl (h2) ?_) | (with_reducible refine at_store 50 _ _ rfl ?_; refine wpList_store_arr iR rfl _ _ rfl _ rfl rfl (h1) ?_))
      exact bodyPost_ret (v := .agg (arr .u32 256 z)) (results_arr Tryd.underlying50 iR rfl _ _ _ rfl (h1.row _ _)) rfl ⟨rfl, below_setRow hb (by omega) _⟩

set_option maxRecDepth 100000 in
set_option maxHeartbeats 1000000 in
theorem implOfRing (z : Nat → Int) (w : World) :
    Calls Tryd.prog 27 #[.agg (arr .u32 256 z)] w fun e w' => e = .returned (.agg (arr .u32 256 z)) ∧ Below w.heap.size w w' := by
  go_enter Tryd.func27, Tryd.ntmps27
  go_wp2_with (first | (with_reducible refine at_load 50 _ rfl ?_; refine wpList_load_arr Tryd.underlying50 iR rfl _ rfl _ rfl (((Blk.new w _ _ _ _ rfl).alloc _).alloc _) ?_))
  go_loopw [7] (fun i wr => ∃ k : Nat, k ≤ 256 ∧ i = .int .i64 k ∧ Below w.heap.size w wr ∧ Blk wr (w.heap.size + 1 + 1) .u32 256 (fun j => if j < k then z j else 0) 23 ∧ Blk wr (w.heap.size + 1) .u32 256 (fun _ => 0) 23) (fun i _ => 256 - (intOf i).toNat)
  case atStart => exact ⟨0, by omega, rfl, (((Below.refl _ _).alloc (Nat.le_refl _) _).alloc (by first | omega | (simp; done) | (simp; omega)) _).alloc (by first | omega | (simp; done) | (simp; omega)) _, (Blk.new _ _ _ _ _ (by first | omega | (simp; done) | (simp; omega))).start _, (Blk.new _ _ _ _ _ (by first | omega | (simp; done) | (simp; omega))).alloc _⟩
  case round =>
    obtain ⟨k, hk, rfl, hb, h2, h1⟩ := hrel
    by_cases hlt : k < 256
    · have hc := h2.cell hlt
      have hf := h2.frozen k
      go_wp2_with fail
      go_roundw
      case rel => exact ⟨k + 1, by omega, by go_num, hb.setCell (by first | omega | (simp; done) | (simp; omega)) _, h2.fill, h1.other _ _ (by first | omega | (simp; done) | (simp; omega))⟩
      case measure => simp [intOf]; omega
    · obtain rfl : k = 256 := by omega
      have h2 := h2.full
      go_wp2_with (first | (with_reducible refine at_load 23 _ rfl ?_; refine wpList_load_arr Tryd.underlying23 iU rfl _ rfl _ rfl (h2) ?_) | (with_reducible refine at_store 23 _ _ rfl ?_; refine wpList_store_arr iU rfl _ _ rfl _ rfl rfl (h1) ?_))
      exact bodyPost_ret (v := .agg (arr .u32 256 z)) (results_arr Tryd.underlying23 iU rfl _ _ _ rfl (h1.row _ _)) rfl ⟨rfl, below_setRow hb (by omega) _⟩

set_option maxRecDepth 100000 in
set_option maxHeartbeats 1000000 in
theorem implTransform (z : Nat → Int) (w : World) :
    Calls Tryd.prog 29 #[.agg (arr .u32 256 z)] w fun e w' => e = .returned (.agg (arr .u32 256 z)) ∧ Below w.heap.size w w' := by
  go_enter Tryd.func29, Tryd.ntmps29
  go_wp2_with (first | (with_reducible refine at_load 23 _ rfl ?_; refine wpList_load_arr Tryd.underlying23 iU rfl _ rfl _ rfl (((Blk.new w _ _ _ _ rfl).alloc _).alloc _) ?_))
  go_loopw [7] (fun i wr => ∃ k : Nat, k ≤ 256 ∧ i = .int .i64 k ∧ Below w.heap.size w wr ∧ Blk wr (w.heap.size + 1 + 1) .u32 256 (fun j => if j < k then z j else 0) 48 ∧ Blk wr (w.heap.size + 1) .u32 256 (fun _ => 0) 48) (fun i _ => 256 - (intOf i).toNat)
  case atStart => exact ⟨0, by omega, rfl, (((Below.refl _ _).alloc (Nat.le_refl _) _).alloc (by first | omega | (simp; done) | (simp; omega)) _).alloc (by first | omega | (simp; done) | (simp; omega)) _, (Blk.new _ _ _ _ _ (by first | omega | (simp; done) | (simp; omega))).start _, (Blk.new _ _ _ _ _ (by first | omega | (simp; done) | (simp; omega))).alloc _⟩
  case round =>
    obtain ⟨k, hk, rfl, hb, h2, h1⟩ := hrel
    by_cases hlt : k < 256
    · have hc := h2.cell hlt
      have hf := h2.frozen k
      go_wp2_with fail
      go_roundw
      case rel => exact ⟨k + 1, by omega, by go_num, hb.setCell (by first | omega | (simp; done) | (simp; omega)) _, h2.fill, h1.other _ _ (by first | omega | (simp; done) | (simp; omega))⟩
      case measure => simp [intOf]; omega
    · obtain rfl : k = 256 := by omega
      have h2 := h2.full
      go_wp2_with (first | (with_reducible refine at_load 48 _ rfl ?_; refine wpList_load_arr Tryd.underlying48 iN rfl _ rfl _ rfl (h2) ?_) | (with_reducible refine at_store 48 _ _ rfl ?_; refine wpList_store_arr iN rfl _ _ rfl _ rfl rfl (h1) ?_))
      exact bodyPost_ret (v := .agg (arr .u32 256 z)) (results_arr Tryd.underlying48 iN rfl _ _ _ rfl (h1.row _ _)) rfl ⟨rfl, below_setRow hb (by omega) _⟩

set_option maxRecDepth 100000 in
set_option maxHeartbeats 1000000 in
theorem implOfTransform (z : Nat → Int) (w : World) :
    Calls Tryd.prog 23 #[.agg (arr .u32 256 z)] w fun e w' => e = .returned (.agg (arr .u32 256 z)) ∧ Below w.heap.size w w' := by
  go_enter Tryd.func23, Tryd.ntmps23
  go_wp2_with (first | (with_reducible refine at_load 48 _ rfl ?_; refine wpList_load_arr Tryd.underlying48 iN rfl _ rfl _ rfl (((Blk.new w _ _ _ _ rfl).alloc _).alloc _) ?_))
  go_loopw [7] (fun i wr => ∃ k : Nat, k ≤ 256 ∧ i = .int .i64 k ∧ Below w.heap.size w wr ∧ Blk wr (w.heap.size + 1 + 1) .u32 256 (fun j => if j < k then z j else 0) 23 ∧ Blk wr (w.heap.size + 1) .u32 256 (fun _ => 0) 23) (fun i _ => 256 - (intOf i).toNat)
  case atStart => exact ⟨0, by omega, rfl, (((Below.refl _ _).alloc (Nat.le_refl _) _).alloc (by first | omega | (simp; done) | (simp; omega)) _).alloc (by first | omega | (simp; done) | (simp; omega)) _, (Blk.new _ _ _ _ _ (by first | omega | (simp; done) | (simp; omega))).start _, (Blk.new _ _ _ _ _ (by first | omega | (simp; done) | (simp; omega))).alloc _⟩
  case round =>
    obtain ⟨k, hk, rfl, hb, h2, h1⟩ := hrel
    by_cases hlt : k < 256
    · have hc := h2.cell hlt
      have hf := h2.frozen k
      go_wp2_with fail
      go_roundw
      case rel => exact ⟨k + 1, by omega, by go_num, hb.setCell (by first | omega | (simp; done) | (simp; omega)) _, h2.fill, h1.other _ _ (by first | omega | (simp; done) | (simp; omega))⟩
      case measure => simp [intOf]; omega
    · obtain rfl : k = 256 := by omega
      have h2 := h2.full
      go_wp2_with (first | (with_reducible refine at_load 23 _ rfl ?_; refine wpList_load_arr Tryd.underlying23 iU rfl _ rfl _ rfl (h2) ?_) | (with_reducible refine at_store 23 _ _ rfl ?_; refine wpList_store_arr iU rfl _ _ rfl _ rfl rfl (h1) ?_))
      exact bodyPost_ret (v := .agg (arr .u32 256 z)) (results_arr Tryd.underlying23 iU rfl _ _ _ rfl (h1.row _ _)) rfl ⟨rfl, below_setRow hb (by omega) _⟩

set_option maxRecDepth 100000 in
set_option maxHeartbeats 1000000 in
theorem polyAddR (x y : Nat → Int) (w : World) (hx : ∀ i, i < 256 → 0 ≤ x i ∧ x i < 8380417) (hy : ∀ i, i < 256 → 0 ≤ y i ∧ y i < 8380417) :
    Calls Tryd.prog 41 #[.agg (arr .u32 256 x), .agg (arr .u32 256 y)] w fun e w' => e = .returned (.agg (arr .u32 256 fun i => (x i + y i) % 8380417)) ∧ Below w.heap.size w w' := by
  have HX := Lib.hid hx; clear hx
  have HY := Lib.hid hy; clear hy
  go_enter Tryd.func41, Tryd.ntmps41
  go_wp2_with (first | (with_reducible refine at_load 50 _ rfl ?_; refine wpList_load_arr Tryd.underlying50 iR rfl _ rfl _ rfl (Blk.new _ _ _ _ _ (by first | omega | (simp; done) | (simp; omega))) ?_))
  go_loopw [7] (fun i wr => ∃ k : Nat, k ≤ 256 ∧ i = .int .i64 k ∧ Below w.heap.size w wr ∧ Blk wr (w.heap.size + 1 + 1) .u32 256 (fun j => if j < k then (x j + y j) % 8380417 else 0) 50 ∧ Blk wr (w.heap.size + 1) .u32 256 y 50 ∧ Blk wr w.heap.size .u32 256 x 50) (fun i _ => 256 - (intOf i).toNat)
  case atStart => exact ⟨0, by omega, rfl, (((Below.refl _ _).alloc (Nat.le_refl _) _).alloc (by first | omega | (simp; done) | (simp; omega)) _).alloc (by first | omega | (simp; done) | (simp; omega)) _, (Blk.new _ _ _ _ _ (by first | omega | (simp; done) | (simp; omega))).start _, (Blk.new _ _ _ _ _ (by first | omega | (simp; done) | (simp; omega))).alloc _, ((Blk.new _ _ _ _ _ rfl).alloc _).alloc _⟩
  case round =>
    obtain ⟨k, hk, rfl, hb, h2, h1, h0⟩ := hrel
    by_cases hlt : k < 256
    · have hc2 := h2.cell hlt
      have hf := h2.frozen k
      have hc1 := h1.cell hlt
      have hc0 := h0.cell hlt
      obtain ⟨hx0, hx1⟩ := HX.out k hlt
      obtain ⟨hy0, hy1⟩ := HY.out k hlt
      skip
      go_wp2_with fail
      refine wp_region_drew_tail 9 (by kernel_rfl) (by kernel_rfl) ?_
      simp only [List.take_succ_cons, List.take_zero, List.drop_succ_cons, List.drop_zero]
      repeat (go_big_quiet_step ((go_at_call 46; exact Calls.quiet_eq (fieldAdd _ _ _ hx0 hx1 hy0 hy1))))
      refine wpQuiet_nil ?_
      intro _ hw'
      obtain ⟨nq, hw''⟩ := hw'
      subst hw''
      go_wp2_with fail
      go_roundw
      case rel => exact ⟨k + 1, by omega, by go_num, (below_drewN hb _).setCell (by first | omega | (simp; done) | (simp; omega)) _, Blk.fill (f := fun j => (x j + y j) % 8380417) (h2.drewN _), (h1.drewN _).other _ _ (by first | omega | (simp; done) | (simp; omega)), (h0.drewN _).other _ _ (by first | omega | (simp; done) | (simp; omega))⟩
      case measure => simp [intOf]; omega
    · obtain rfl : k = 256 := by omega
      have h2 := h2.full
      go_wp2_with (first | (with_reducible refine at_load 50 _ rfl ?_; refine wpList_load_arr Tryd.underlying50 iR rfl _ rfl _ rfl (h2) ?_) | (with_reducible refine at_store 50 _ _ rfl ?_; refine wpList_store_arr iR rfl _ _ rfl _ rfl rfl (h2) ?_))
      exact bodyPost_ret (v := .agg (arr .u32 256 fun i => (x i + y i) % 8380417)) (results_arr Tryd.underlying50 iR rfl _ _ _ rfl (h2.row _ _)) rfl ⟨rfl, below_setRow hb (by omega) _⟩


set_option maxRecDepth 100000 in
set_option maxHeartbeats 1000000 in
theorem nttMulC (x y : Nat → Int) (w : World) (hx : ∀ i, i < 256 → 0 ≤ x i ∧ x i < 8380417) (hy : ∀ i, i < 256 → 0 ≤ y i ∧ y i < 8380417) :
    Calls Tryd.prog 43 #[.agg (arr .u32 256 x), .agg (arr .u32 256 y)] w fun e w' => e = .returned (.agg (arr .u32 256 fun i => mred (x i * y i))) ∧ Below w.heap.size w w' := by
  have HX := Lib.hid hx; clear hx
  have HY := Lib.hid hy; clear hy
  go_enter Tryd.func43, Tryd.ntmps43
  go_wp2_with fail
  go_loopw [6] (fun i wr => ∃ k : Nat, k ≤ 256 ∧ i = .int .i64 k ∧ Below w.heap.size w wr ∧ Blk wr (w.heap.size + 1 + 1) .u32 256 (fun j => if j < k then mred (x j * y j) else 0) 48 ∧ Blk wr (w.heap.size + 1) .u32 256 y 48 ∧ Blk wr w.heap.size .u32 256 x 48) (fun i _ => 256 - (intOf i).toNat)
  case atStart => exact ⟨0, by omega, rfl, (((Below.refl _ _).alloc (Nat.le_refl _) _).alloc (by first | omega | (simp; done) | (simp; omega)) _).alloc (by first | omega | (simp; done) | (simp; omega)) _, (Blk.new _ _ _ _ _ (by first | omega | (simp; done) | (simp; omega))).start _, (Blk.new _ _ _ _ _ (by first | omega | (simp; done) | (simp; omega))).alloc _, ((Blk.new _ _ _ _ _ rfl).alloc _).alloc _⟩
  case round =>
    obtain ⟨k, hk, rfl, hb, h2, h1, h0⟩ := hrel
    by_cases hlt : k < 256
    · have hc2 := h2.cell hlt
      have hf := h2.frozen k
      have hc1 := h1.cell hlt
      have hc0 := h0.cell hlt
      obtain ⟨hx0, hx1⟩ := HX.out k hlt
      obtain ⟨hy0, hy1⟩ := HY.out k hlt
      skip
      go_wp2_with fail
      refine wp_region_drew_tail 9 (by kernel_rfl) (by kernel_rfl) ?_
      simp only [List.take_succ_cons, List.take_zero, List.drop_succ_cons, List.drop_zero]
      repeat (go_big_quiet_step ((go_at_call 44; exact Calls.quiet_eq (fieldMul _ _ _ hx0 (by omega) hy0 hy1))))
      refine wpQuiet_nil ?_
      intro _ hw'
      obtain ⟨nq, hw''⟩ := hw'
      subst hw''
      go_wp2_with fail
      go_roundw
      case rel => exact ⟨k + 1, by omega, by go_num, (below_drewN hb _).setCell (by first | omega | (simp; done) | (simp; omega)) _, Blk.fill (f := fun j => mred (x j * y j)) (h2.drewN _), (h1.drewN _).other _ _ (by first | omega | (simp; done) | (simp; omega)), (h0.drewN _).other _ _ (by first | omega | (simp; done) | (simp; omega))⟩
      case measure => simp [intOf]; omega
    · obtain rfl : k = 256 := by omega
      have h2 := h2.full
      go_wp2_with (first | (with_reducible refine at_load 48 _ rfl ?_; refine wpList_load_arr Tryd.underlying48 iN rfl _ rfl _ rfl (h2) ?_) | (with_reducible refine at_store 48 _ _ rfl ?_; refine wpList_store_arr iN rfl _ _ rfl _ rfl rfl (h2) ?_))
      exact bodyPost_ret (v := .agg (arr .u32 256 fun i => mred (x i * y i))) (results_arr Tryd.underlying48 iN rfl _ _ _ rfl (h2.row _ _)) rfl ⟨rfl, below_setRow hb (by omega) _⟩




/-- Whether all 256 numbers are below the prime. -/
def redB (z : Nat → Int) : Bool := (List.range 256).all fun i => decide (z i < 8380417)
theorem redB_true {z : Nat → Int} (h : redB z = true) (i : Nat) (hi : i < 256) : z i < 8380417 := by
  unfold redB at h
  rw [List.all_eq_true] at h
  simpa using h i (List.mem_range.2 hi)
theorem lwReducedArr (g : Nat) (z : Nat → Int) (t : TypeId) (w : World) (h : Blk w g .u32 256 z t) :
    Calls Tryd.prog 15 #[.slice (some ⟨g, 0, none⟩) 256 256] w fun e w' => e = .returned (.bool (redB z)) ∧ w = w' := by
  have := lwReduced g 0 256 256 ((List.range 256).map z) w (by simp) (by omega) (fun j hj => by rw [Nat.zero_add, h.cell hj]; simp [List.getD, hj])
  rw [List.all_map] at this
  exact this

set_option maxRecDepth 100000 in
set_option maxHeartbeats 1000000 in
theorem lwRaw (z : Nat → Int) (w : World) (hz : ∀ i, i < 256 → 0 ≤ z i ∧ z i < 4294967296) :
    Calls Tryd.prog 9 #[.agg (arr .u32 256 z)] w fun e w' => e = .returned (.tuple #[.agg (arr .i64 256 z), .bool (redB z)]) ∧ Below w.heap.size w w' := by
  have HZ := Lib.hid hz; clear hz
  go_enter Tryd.func9, Tryd.ntmps9
  go_wp2_with (first | (with_reducible refine at_load 23 _ rfl ?_; refine wpList_load_arr Tryd.underlying23 iU rfl _ rfl _ rfl ((((Blk.new w _ _ _ _ rfl).alloc _).alloc _).rowOther _ _ (by first | omega | (simp; done) | (simp; omega))) ?_) | (with_reducible refine at_store 25 _ _ rfl ?_; refine wpList_store_arr iP rfl _ _ rfl _ rfl rfl (Blk.new _ _ _ _ _ (by first | omega | (simp; done) | (simp; omega))) ?_))
  go_loopw [9] (fun i wr => ∃ k : Nat, k ≤ 256 ∧ i = .int .i64 k ∧ Below w.heap.size w wr ∧ Blk wr (w.heap.size + 1 + 1) .i64 256 (fun j => if j < k then z j else 0) 25 ∧ Blk wr (w.heap.size + 1) .i64 256 (fun _ => 0) 25 ∧ Blk wr w.heap.size .u32 256 z 23) (fun i _ => 256 - (intOf i).toNat)
  case atStart => exact ⟨0, by omega, rfl, below_setRow ((((Below.refl _ _).alloc (Nat.le_refl _) _).alloc (by first | omega | (simp; done) | (simp; omega)) _).alloc (by first | omega | (simp; done) | (simp; omega)) _) (by first | omega | (simp; done) | (simp; omega)) _, ((Blk.new _ _ _ _ _ (by first | omega | (simp; done) | (simp; omega))).row _ _).start _, ((Blk.new _ _ _ _ _ (by first | omega | (simp; done) | (simp; omega))).alloc _).rowOther _ _ (by first | omega | (simp; done) | (simp; omega)), (((Blk.new _ _ _ _ _ rfl).alloc _).alloc _).rowOther _ _ (by first | omega | (simp; done) | (simp; omega))⟩
  case round =>
    obtain ⟨k, hk, rfl, hb, h2, h1, h0⟩ := hrel
    by_cases hlt : k < 256
    · have hc := h2.cell hlt
      have hf := h2.frozen k
      obtain ⟨hz0, hz1⟩ := HZ.out k hlt
      go_wp2_with fail
      go_roundw
      case rel => exact ⟨k + 1, by omega, by go_num, hb.setCell (by first | omega | (simp; done) | (simp; omega)) _, h2.fill, h1.other _ _ (by first | omega | (simp; done) | (simp; omega)), h0.other _ _ (by first | omega | (simp; done) | (simp; omega))⟩
      case measure => simp [intOf]; omega
    · obtain rfl : k = 256 := by omega
      have h2 := h2.full
      go_wp2_with fail
      refine wp_region_drew_tail 3 (by kernel_rfl) (by kernel_rfl) ?_
      simp only [List.take_succ_cons, List.take_zero, List.drop_succ_cons, List.drop_zero]
      (refine BigFrame.wpQuiet_want rfl (fun K hK => ?_); refine quiet_load_arr Tryd.underlying25 iP _ rfl _ rfl (fun w' hw' => (by obtain ⟨m, rfl⟩ := hw'; exact h2.drewN m)) (hK _ ?_); clear hK K; simp only [Act.put, List.setIfInBounds_toArray, List.set_cons_zero, List.set_cons_succ])
      repeat (go_big_quiet_step ((go_at_call 15; exact Calls.quiet_eq (lwReducedArr _ _ _ _ (h0.drewN _)))))
      refine wpQuiet_nil ?_
      intro _ hw'
      obtain ⟨nq, hw''⟩ := hw'
      subst hw''
      go_wp2_with (first | (with_reducible refine at_store 25 _ _ rfl ?_; refine wpList_store_arr iP rfl _ _ rfl _ rfl rfl (h1.drewN _) ?_))
      exact bodyPost_ret (v := .tuple #[.agg (arr .i64 256 z), .bool (redB z)]) (results_arr_tmp Tryd.underlying25 iP rfl _ _ _ _ rfl rfl ((h1.drewN _).row _ _)) rfl ⟨rfl, below_setRow (below_drewN hb _) (by first | omega | (simp; done) | (simp; omega)) _⟩

set_option maxRecDepth 100000 in
set_option maxHeartbeats 1000000 in
theorem lwPlain (z : Nat → Int) (w : World) (hz : ∀ i, i < 256 → 0 ≤ z i ∧ z i < 4294967296) :
    Calls Tryd.prog 21 #[.agg (arr .u32 256 z)] w fun e w' => e = .returned (.tuple #[.agg (arr .i64 256 fun i => mred (z i)), .bool (redB z)]) ∧ Below w.heap.size w w' := by
  have HZ := Lib.hid hz; clear hz
  go_enter Tryd.func21, Tryd.ntmps21
  go_wp2_with (first | (with_reducible refine at_load 23 _ rfl ?_; refine wpList_load_arr Tryd.underlying23 iU rfl _ rfl _ rfl ((Blk.new w _ _ _ _ rfl).alloc _) ?_))
  refine (lwRaw z _ HZ.out).mono ?_
  rintro e w1 ⟨rfl, hb1⟩
  have g0 := ((Blk.new w .u32 256 z 23 rfl).alloc (.cells (arr .i64 256 fun _ => 0) 25)).below hb1
  have g1 := (Blk.new (g := w.heap.size + 1) (w.alloc (.cells (arr .u32 256 z) 23)) .i64 256 (fun _ => 0) 25 (by first | omega | (simp; done) | (simp; omega))).below hb1
  have hB := belowChain (((Below.refl w.heap.size w).alloc (Nat.le_refl _) (.cells (arr .u32 256 z) 23)).alloc (by first | omega | (simp; done) | (simp; omega)) (.cells (arr .i64 256 fun _ => 0) 25)) hb1 (by first | omega | (simp; done) | (simp; omega))
  have hsz : w.heap.size + 1 < w1.heap.size := g1.lt
  clear hb1
  go_wp2_with (first | (with_reducible refine at_store 25 _ _ rfl ?_; refine wpList_store_arr iP rfl _ _ rfl _ rfl rfl (Blk.new _ _ _ _ _ (by first | omega | (simp; done) | (simp; omega))) ?_))
  go_loopw [6] (fun i wr => ∃ k : Nat, k ≤ 256 ∧ i = .int .i64 k ∧ Below w.heap.size w wr ∧ Blk wr w1.heap.size .i64 256 (fun j => if j < k then mred (z j) else z j) 25 ∧ Blk wr (w.heap.size + 1) .i64 256 (fun _ => 0) 25) (fun i _ => 256 - (intOf i).toNat)
  case atStart => exact ⟨0, by omega, rfl, below_setRow (hB.alloc (by first | omega | (simp; done) | (simp; omega)) _) (by first | omega | (simp; done) | (simp; omega)) _, ((Blk.new _ _ _ _ _ (by first | omega | (simp; done) | (simp; omega))).row _ _).start _, (g1.alloc _).rowOther _ _ (by first | omega | (simp; done) | (simp; omega))⟩
  case round =>
    obtain ⟨k, hk, rfl, hb, h2, h1⟩ := hrel
    by_cases hlt : k < 256
    · have hc := h2.cell hlt
      rw [if_neg (by omega)] at hc
      have hf := h2.frozen k
      obtain ⟨hz0, hz1⟩ := HZ.out k hlt
      go_wp2_with (first | (go_at_call 36; refine (spPlain _ _ hz0 hz1).mono ?_; rintro e w' ⟨rfl, rfl⟩))
      go_roundw
      case rel => exact ⟨k + 1, by omega, by go_num, hb.setCell (by first | omega | (simp; done) | (simp; omega)) _, Blk.fill (f := fun j => mred (z j)) h2, h1.other _ _ (by first | omega | (simp; done) | (simp; omega))⟩
      case measure => simp [intOf]; omega
    · obtain rfl : k = 256 := by omega
      have h2 := h2.full
      go_wp2_with (first | (with_reducible refine at_load 25 _ rfl ?_; refine wpList_load_arr Tryd.underlying25 iP rfl _ rfl _ rfl (h2) ?_) | (with_reducible refine at_store 25 _ _ rfl ?_; refine wpList_store_arr iP rfl _ _ rfl _ rfl rfl (h1) ?_))
      exact bodyPost_ret (v := .tuple #[.agg (arr .i64 256 fun i => mred (z i)), .bool (redB z)]) (results_arr_tmp Tryd.underlying25 iP rfl _ _ _ _ rfl rfl (h1.row _ _)) rfl ⟨rfl, below_setRow hb (by first | omega | (simp; done) | (simp; omega)) _⟩

set_option maxRecDepth 100000 in
set_option maxHeartbeats 1000000 in
theorem zzRingAdd (x y : Nat → Int) (w : World) (hx : ∀ i, i < 256 → 0 ≤ x i ∧ x i < 8380417) (hy : ∀ i, i < 256 → 0 ≤ y i ∧ y i < 8380417) :
    Calls Tryd.prog 31 #[.agg (arr .u32 256 x), .agg (arr .u32 256 y)] w fun e w' => e = .returned (.agg (arr .u32 256 fun i => (x i + y i) % 8380417)) ∧ Below w.heap.size w w' := by
  go_enter Tryd.func31, Tryd.ntmps31
  go_wp2_with (first | (with_reducible refine at_loadx 50 2 rfl ?_; refine wpList_load_arr Tryd.underlying50 iR rfl _ rfl _ rfl (((((Blk.new _ _ _ _ _ (by first | omega | (simp; done) | (simp; omega))).alloc _)).alloc _)) ?_) | (with_reducible refine at_loadx 50 3 rfl ?_; refine wpList_load_arr Tryd.underlying50 iR rfl _ rfl _ rfl (((Blk.new _ _ _ _ _ (by first | omega | (simp; done) | (simp; omega))).alloc _)) ?_))
  refine (polyAddR x y _ hx hy).mono ?_
  rintro e w1 ⟨rfl, hb1⟩
  have hr := Blk.below (Blk.new (g := w.heap.size + 1 + 1) _ .u32 256 (fun _ => 0) 50 (by first | omega | (simp; done) | (simp; omega))) hb1
  have hB := belowChain ((((Below.refl w.heap.size w).alloc (by first | omega | (simp; done) | (simp; omega)) _).alloc (by first | omega | (simp; done) | (simp; omega)) _).alloc (by first | omega | (simp; done) | (simp; omega)) _) hb1 (by first | omega | (simp; done) | (simp; omega))
  go_wp2_with (first | (with_reducible refine at_store 50 _ _ rfl ?_; refine wpList_store_arr iR rfl _ _ rfl _ rfl rfl (hr) ?_))
  exact bodyPost_ret (v := .agg (arr .u32 256 fun i => (x i + y i) % 8380417)) (results_arr Tryd.underlying50 iR rfl _ _ _ rfl (hr.row _ _)) rfl ⟨rfl, below_setRow hB (by first | omega | (simp; done) | (simp; omega)) _⟩


set_option maxRecDepth 100000 in
set_option maxHeartbeats 1000000 in
theorem zzNTTMul (x y : Nat → Int) (w : World) (hx : ∀ i, i < 256 → 0 ≤ x i ∧ x i < 8380417) (hy : ∀ i, i < 256 → 0 ≤ y i ∧ y i < 8380417) :
    Calls Tryd.prog 37 #[.agg (arr .u32 256 x), .agg (arr .u32 256 y)] w fun e w' => e = .returned (.agg (arr .u32 256 fun i => mred (x i * y i))) ∧ Below w.heap.size w w' := by
  go_enter Tryd.func37, Tryd.ntmps37
  go_wp2_with (first | (with_reducible refine at_loadx 48 2 rfl ?_; refine wpList_load_arr Tryd.underlying48 iN rfl _ rfl _ rfl (((((Blk.new _ _ _ _ _ (by first | omega | (simp; done) | (simp; omega))).alloc _)).alloc _)) ?_) | (with_reducible refine at_loadx 48 3 rfl ?_; refine wpList_load_arr Tryd.underlying48 iN rfl _ rfl _ rfl (((Blk.new _ _ _ _ _ (by first | omega | (simp; done) | (simp; omega))).alloc _)) ?_))
  refine (nttMulC x y _ hx hy).mono ?_
  rintro e w1 ⟨rfl, hb1⟩
  have hr := Blk.below (Blk.new (g := w.heap.size + 1 + 1) _ .u32 256 (fun _ => 0) 48 (by first | omega | (simp; done) | (simp; omega))) hb1
  have hB := belowChain ((((Below.refl w.heap.size w).alloc (by first | omega | (simp; done) | (simp; omega)) _).alloc (by first | omega | (simp; done) | (simp; omega)) _).alloc (by first | omega | (simp; done) | (simp; omega)) _) hb1 (by first | omega | (simp; done) | (simp; omega))
  go_wp2_with (first | (with_reducible refine at_store 48 _ _ rfl ?_; refine wpList_store_arr iN rfl _ _ rfl _ rfl rfl (hr) ?_))
  exact bodyPost_ret (v := .agg (arr .u32 256 fun i => mred (x i * y i))) (results_arr Tryd.underlying48 iN rfl _ _ _ rfl (hr.row _ _)) rfl ⟨rfl, below_setRow hB (by first | omega | (simp; done) | (simp; omega)) _⟩

set_option maxRecDepth 100000 in
set_option maxHeartbeats 1000000 in
theorem implRingAdd (x y : Nat → Int) (w : World) (hx : ∀ i, i < 256 → 0 ≤ x i ∧ x i < 8380417) (hy : ∀ i, i < 256 → 0 ≤ y i ∧ y i < 8380417) :
    Calls Tryd.prog 16 #[.agg (arr .u32 256 x), .agg (arr .u32 256 y)] w fun e w' => e = .returned (.agg (arr .u32 256 fun i => (x i + y i) % 8380417)) ∧ Below w.heap.size w w' := by
  have HX := Lib.hid hx; clear hx
  have HY := Lib.hid hy; clear hy
  go_enter Tryd.func16, Tryd.ntmps16
  go_wp2_with fail
  refine wp_region_below_tail 6 (by kernel_rfl) (by kernel_rfl) ?_
  simp only [List.take_succ_cons, List.take_zero, List.drop_succ_cons, List.drop_zero]
  (refine BigFrame.wpQuiet_want rfl (fun K hK => ?_); refine quiet_load_arr Tryd.underlying23 iU _ rfl _ rfl (fun w' hw' => Blk.below (((Blk.new w _ _ _ _ rfl).alloc _).alloc _) hw') (hK _ ?_); clear hK K; simp only [Act.put, List.setIfInBounds_toArray, List.set_cons_zero, List.set_cons_succ])
  go_big_quiet_step ((intro hw'; go_at_call 25; exact Calls.in_below hw' (implRing x _)))
  (refine BigFrame.wpQuiet_want rfl (fun K hK => ?_); refine quiet_load_arr Tryd.underlying23 iU _ rfl _ rfl (fun w' hw' => Blk.below ((Blk.new _ _ _ _ _ (by first | omega | (simp; done) | (simp; omega))).alloc _) hw') (hK _ ?_); clear hK K; simp only [Act.put, List.setIfInBounds_toArray, List.set_cons_zero, List.set_cons_succ])
  go_big_quiet_step ((intro hw'; go_at_call 25; exact Calls.in_below hw' (implRing y _)))
  go_big_quiet_step ((intro hw'; go_at_call 31; exact Calls.in_below hw' (zzRingAdd x y _ HX.out HY.out)))
  go_big_quiet_step ((intro hw'; go_at_call 27; exact Calls.in_below hw' (implOfRing _ _)))
  refine wpQuiet_nil ?_
  intro w2 hb2
  have hr := Blk.below (Blk.new (g := w.heap.size + 1 + 1) _ .u32 256 (fun _ => 0) 23 (by first | omega | (simp; done) | (simp; omega))) hb2
  have hB := belowChain (((((Below.refl w.heap.size w)).alloc (by first | omega | (simp; done) | (simp; omega)) _).alloc (by first | omega | (simp; done) | (simp; omega)) _).alloc (by first | omega | (simp; done) | (simp; omega)) _) hb2 (by first | omega | (simp; done) | (simp; omega))
  go_wp2_with (first | (with_reducible refine at_store 23 _ _ rfl ?_; refine wpList_store_arr iU rfl _ _ rfl _ rfl rfl (hr) ?_))
  exact bodyPost_ret (v := .agg (arr .u32 256 fun i => (x i + y i) % 8380417)) (results_arr Tryd.underlying23 iU rfl _ _ _ rfl (hr.row _ _)) rfl ⟨rfl, below_setRow hB (by first | omega | (simp; done) | (simp; omega)) _⟩


set_option maxRecDepth 100000 in
set_option maxHeartbeats 1000000 in
theorem implNTTMul (x y : Nat → Int) (w : World) (hx : ∀ i, i < 256 → 0 ≤ x i ∧ x i < 8380417) (hy : ∀ i, i < 256 → 0 ≤ y i ∧ y i < 8380417) :
    Calls Tryd.prog 22 #[.agg (arr .u32 256 x), .agg (arr .u32 256 y)] w fun e w' => e = .returned (.agg (arr .u32 256 fun i => mred (x i * y i))) ∧ Below w.heap.size w w' := by
  have HX := Lib.hid hx; clear hx
  have HY := Lib.hid hy; clear hy
  go_enter Tryd.func22, Tryd.ntmps22
  go_wp2_with fail
  refine wp_region_below_tail 6 (by kernel_rfl) (by kernel_rfl) ?_
  simp only [List.take_succ_cons, List.take_zero, List.drop_succ_cons, List.drop_zero]
  (refine BigFrame.wpQuiet_want rfl (fun K hK => ?_); refine quiet_load_arr Tryd.underlying23 iU _ rfl _ rfl (fun w' hw' => Blk.below (((Blk.new w _ _ _ _ rfl).alloc _).alloc _) hw') (hK _ ?_); clear hK K; simp only [Act.put, List.setIfInBounds_toArray, List.set_cons_zero, List.set_cons_succ])
  go_big_quiet_step ((intro hw'; go_at_call 29; exact Calls.in_below hw' (implTransform x _)))
  (refine BigFrame.wpQuiet_want rfl (fun K hK => ?_); refine quiet_load_arr Tryd.underlying23 iU _ rfl _ rfl (fun w' hw' => Blk.below ((Blk.new _ _ _ _ _ (by first | omega | (simp; done) | (simp; omega))).alloc _) hw') (hK _ ?_); clear hK K; simp only [Act.put, List.setIfInBounds_toArray, List.set_cons_zero, List.set_cons_succ])
  go_big_quiet_step ((intro hw'; go_at_call 29; exact Calls.in_below hw' (implTransform y _)))
  go_big_quiet_step ((intro hw'; go_at_call 37; exact Calls.in_below hw' (zzNTTMul x y _ HX.out HY.out)))
  go_big_quiet_step ((intro hw'; go_at_call 23; exact Calls.in_below hw' (implOfTransform _ _)))
  refine wpQuiet_nil ?_
  intro w2 hb2
  have hr := Blk.below (Blk.new (g := w.heap.size + 1 + 1) _ .u32 256 (fun _ => 0) 23 (by first | omega | (simp; done) | (simp; omega))) hb2
  have hB := belowChain (((((Below.refl w.heap.size w)).alloc (by first | omega | (simp; done) | (simp; omega)) _).alloc (by first | omega | (simp; done) | (simp; omega)) _).alloc (by first | omega | (simp; done) | (simp; omega)) _) hb2 (by first | omega | (simp; done) | (simp; omega))
  go_wp2_with (first | (with_reducible refine at_store 23 _ _ rfl ?_; refine wpList_store_arr iU rfl _ _ rfl _ rfl rfl (hr) ?_))
  exact bodyPost_ret (v := .agg (arr .u32 256 fun i => mred (x i * y i))) (results_arr Tryd.underlying23 iU rfl _ _ _ rfl (hr.row _ _)) rfl ⟨rfl, below_setRow hB (by first | omega | (simp; done) | (simp; omega)) _⟩

set_option maxRecDepth 100000 in
set_option maxHeartbeats 1000000 in
theorem lwIsRaw (z y : Nat → Int) (w : World) (hz : ∀ i, i < 256 → 0 ≤ z i ∧ z i < 4294967296) (he : ∀ i, i < 256 → z i = y i) :
    Calls Tryd.prog 10 #[.agg (arr .u32 256 z), .agg (arr .i64 256 y)] w fun e w' => e = .returned (.bool true) ∧ Below w.heap.size w w' := by
  have HZ := Lib.hid hz; clear hz
  have HE := Lib.hid he; clear he
  go_enter Tryd.func10, Tryd.ntmps10
  go_wp2_with (first | (with_reducible refine at_load 23 _ rfl ?_; refine wpList_load_arr Tryd.underlying23 iU rfl _ rfl _ rfl ((Blk.new w _ _ _ _ rfl).alloc _) ?_))
  go_loopw [8] (fun i wr => ∃ k : Nat, k ≤ 256 ∧ i = .int .i64 k ∧ Below w.heap.size w wr ∧ Blk wr (w.heap.size + 1) .i64 256 y 25) (fun i _ => 256 - (intOf i).toNat)
  case atStart => exact ⟨0, by omega, rfl, (((Below.refl _ _).alloc (Nat.le_refl _) _).alloc (by first | omega | (simp; done) | (simp; omega)) _), Blk.new _ _ _ _ _ (by first | omega | (simp; done) | (simp; omega))⟩
  case round =>
    obtain ⟨k, hk, rfl, hb, h1⟩ := hrel
    by_cases hlt : k < 256
    · have hc := h1.cell hlt
      obtain ⟨hz0, hz1⟩ := HZ.out k hlt
      have hne : (z k != y k) = false := by simp [HE.out k hlt]
      go_wp2_with fail
      go_roundw
      case rel => exact ⟨k + 1, by omega, by go_num, hb, h1⟩
      case measure => simp [intOf]; omega
    · go_wp2_with fail
      go_ret
      exact ⟨rfl, hb⟩

set_option maxRecDepth 100000 in
set_option maxHeartbeats 1000000 in
theorem lwIs (z y : Nat → Int) (w : World) (hz : ∀ i, i < 256 → 0 ≤ z i ∧ z i < 4294967296) (he : ∀ i, i < 256 → (-4611686018427387904 ≤ y i ∧ y i < 4611686018427387904) ∧ z i = y i * 4193792 % 8380417) :
    Calls Tryd.prog 20 #[.agg (arr .u32 256 z), .agg (arr .i64 256 y)] w fun e w' => e = .returned (.bool true) ∧ Below w.heap.size w w' := by
  have HZ := Lib.hid hz; clear hz
  have HE := Lib.hid he; clear he
  go_enter Tryd.func20, Tryd.ntmps20
  go_wp2_with (first | (with_reducible refine at_load 23 _ rfl ?_; refine wpList_load_arr Tryd.underlying23 iU rfl _ rfl _ rfl ((Blk.new w _ _ _ _ rfl).alloc _) ?_))
  go_loopw [8] (fun i wr => ∃ k : Nat, k ≤ 256 ∧ i = .int .i64 k ∧ Below w.heap.size w wr ∧ Blk wr (w.heap.size + 1) .i64 256 y 25) (fun i _ => 256 - (intOf i).toNat)
  case atStart => exact ⟨0, by omega, rfl, (((Below.refl _ _).alloc (Nat.le_refl _) _).alloc (by first | omega | (simp; done) | (simp; omega)) _), Blk.new _ _ _ _ _ (by first | omega | (simp; done) | (simp; omega))⟩
  case round =>
    obtain ⟨k, hk, rfl, hb, h1⟩ := hrel
    by_cases hlt : k < 256
    · have hc := h1.cell hlt
      obtain ⟨hz0, hz1⟩ := HZ.out k hlt
      obtain ⟨⟨hy0, hy1⟩, hzy⟩ := HE.out k hlt
      have hne : (z k != y k * 4193792 % 8380417) = false := by simp [hzy]
      clear hzy
      go_wp2_with (first | (go_at_call 35; refine (spMont _ _ hy0 hy1).mono ?_; rintro e w' ⟨rfl, rfl⟩))
      go_roundw
      case rel => exact ⟨k + 1, by omega, by go_num, hb, h1⟩
      case measure => simp [intOf]; omega
    · go_wp2_with fail
      go_ret
      exact ⟨rfl, hb⟩




def nstep (m c : Int) : Int := if (if m < c then c else m) < -c then -c else (if m < c then c else m)
/-- The greatest magnitude of the first k numbers, centred. -/
def normTo (z : Nat → Int) : Nat → Int
  | 0 => 0
  | k + 1 => nstep (normTo z k) (cen (z k) 8380417)
theorem nstep_le (m c b : Int) : b ≤ nstep m c ↔ b ≤ m ∨ b ≤ max c (-c) := by
  unfold nstep
  split <;> split <;> omega
theorem normTo_le (z : Nat → Int) (b : Int) (k : Nat) : b ≤ normTo z k ↔ b ≤ 0 ∨ ∃ i, i < k ∧ b ≤ max (cen (z i) 8380417) (-cen (z i) 8380417) := by
  induction k with
  | zero => simp [normTo]
  | succ k ih =>
    rw [normTo, nstep_le, ih]
    constructor
    · rintro ((h | ⟨i, hi, h⟩) | h)
      · exact .inl h
      · exact .inr ⟨i, by omega, h⟩
      · exact .inr ⟨k, by omega, h⟩
    · rintro (h | ⟨i, hi, h⟩)
      · exact .inl (.inl h)
      · by_cases e : i = k
        · subst e; exact .inr h
        · exact .inl (.inr ⟨i, by omega, h⟩)
theorem normTo_bd (z : Nat → Int) (k : Nat) : 0 ≤ normTo z k ∧ normTo z k ≤ 8380417 := by
  induction k with
  | zero => simp [normTo]
  | succ k ih =>
    obtain ⟨h1, h2⟩ := cen_bd (z k) 8380417 (by omega)
    rw [normTo]
    unfold nstep
    split <;> split <;> omega
theorem magn_nn (c : Int) : 0 ≤ max c (-c) := by omega





end Go.Proofs.YtpfabgmoadljnaaDoor
