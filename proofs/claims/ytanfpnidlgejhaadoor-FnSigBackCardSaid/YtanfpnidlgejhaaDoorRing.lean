/-
  Contracts of the functions on whole polynomials: the thin package's conversions, sums, differences and products, the reference's own, and the laws' readings.
-/
import Derived.Test.YtanfpnidlgejhaaDoorReduced
import Derived.Test.YtanfpnidlgejhaaDoorRound
import Derived.Test.YtanfpnidlgejhaaDoorArr
import Derived.Test.YtanfpnidlgejhaaDoorRegion
namespace Go.Proofs.YtanfpnidlgejhaaDoor
open Go.RowKit

theorem iR : (Tryd.prog.info? 82).map (·.size) = some 256 := by kernel_rfl
@[go_sem ↓] theorem zR (w : World) : (zeroValue 82).run Tryd.prog w = .ok (.agg (arr .u32 256 fun _ => 0)) w := zero_arr (by kernel_rfl) w
@[go_sem] theorem ixR (z : Nat → Int) (i : Nat) (w : World) (h : i < 256) : (Instr.index 82 (.agg (arr .u32 256 z)) (.int .i64 (i : Int))).run Tryd.prog w = .ok (.int .u32 (z i)) w :=
  run_index_arr Tryd.underlying82 Tryd.isAgg80 Tryd.sizeOf80 z i h w
@[go_sem] theorem bdR (w : World) : (Instr.build 82 #[]).run Tryd.prog w = .ok (.agg (arr .u32 256 fun _ => 0)) w := build_arr (by kernel_rfl) w


theorem iU : (Tryd.prog.info? 40).map (·.size) = some 256 := by kernel_rfl
@[go_sem ↓] theorem zU (w : World) : (zeroValue 40).run Tryd.prog w = .ok (.agg (arr .u32 256 fun _ => 0)) w := zero_arr (by kernel_rfl) w
@[go_sem] theorem ixU (z : Nat → Int) (i : Nat) (w : World) (h : i < 256) : (Instr.index 40 (.agg (arr .u32 256 z)) (.int .i64 (i : Int))).run Tryd.prog w = .ok (.int .u32 (z i)) w :=
  run_index_arr Tryd.underlying40 Tryd.isAgg39 Tryd.sizeOf39 z i h w
@[go_sem] theorem bdU (w : World) : (Instr.build 40 #[]).run Tryd.prog w = .ok (.agg (arr .u32 256 fun _ => 0)) w := build_arr (by kernel_rfl) w

theorem iP : (Tryd.prog.info? 43).map (·.size) = some 256 := by kernel_rfl
@[go_sem ↓] theorem zP (w : World) : (zeroValue 43).run Tryd.prog w = .ok (.agg (arr .i64 256 fun _ => 0)) w := zero_arr (by kernel_rfl) w
@[go_sem] theorem ixP (z : Nat → Int) (i : Nat) (w : World) (h : i < 256) : (Instr.index 43 (.agg (arr .i64 256 z)) (.int .i64 (i : Int))).run Tryd.prog w = .ok (.int .i64 (z i)) w :=
  run_index_arr Tryd.underlying43 Tryd.isAgg3 Tryd.sizeOf3 z i h w
@[go_sem] theorem bdP (w : World) : (Instr.build 43 #[]).run Tryd.prog w = .ok (.agg (arr .i64 256 fun _ => 0)) w := build_arr (by kernel_rfl) w

theorem iB : (Tryd.prog.info? 66).map (·.size) = some 256 := by kernel_rfl
@[go_sem ↓] theorem zB (w : World) : (zeroValue 66).run Tryd.prog w = .ok (.agg (arr .u8 256 fun _ => 0)) w := zero_arr (by kernel_rfl) w
@[go_sem] theorem ixB (z : Nat → Int) (i : Nat) (w : World) (h : i < 256) : (Instr.index 66 (.agg (arr .u8 256 z)) (.int .i64 (i : Int))).run Tryd.prog w = .ok (.int .u8 (z i)) w :=
  run_index_arr Tryd.underlying66 Tryd.isAgg5 Tryd.sizeOf5 z i h w
@[go_sem] theorem bdB (w : World) : (Instr.build 66 #[]).run Tryd.prog w = .ok (.agg (arr .u8 256 fun _ => 0)) w := build_arr (by kernel_rfl) w


set_option maxRecDepth 100000 in
set_option maxHeartbeats 1000000 in
theorem implRing (z : Nat → Int) (w : World) :
    Calls Tryd.prog 45 #[.agg (arr .u32 256 z)] w fun e w' => e = .returned (.agg (arr .u32 256 z)) ∧ Below w.heap.size w w' := by
  go_enter Tryd.func45, Tryd.ntmps45
  go_wp2_with (first | (with_reducible refine at_load 40 _ rfl ?_; refine wpList_load_arr Tryd.underlying40 iU rfl _ rfl _ rfl (((Blk.new w _ _ _ _ rfl).alloc _).alloc _) ?_))
  go_loopw [7] (fun i wr => ∃ k : Nat, k ≤ 256 ∧ i = .int .i64 k ∧ Below w.heap.size w wr ∧ Blk wr (w.heap.size + 1 + 1) .u32 256 (fun j => if j < k then z j else 0) 82 ∧ Blk wr (w.heap.size + 1) .u32 256 (fun _ => 0) 82) (fun i _ => 256 - (intOf i).toNat)
  case atStart => exact ⟨0, by omega, rfl, (((Below.refl _ _).alloc (Nat.le_refl _) _).alloc (by first | omega | (simp; done) | (simp; omega)) _).alloc (by first | omega | (simp; done) | (simp; omega)) _, (Blk.new _ _ _ _ _ (by first | omega | (simp; done) | (simp; omega))).start _, (Blk.new _ _ _ _ _ (by first | omega | (simp; done) | (simp; omega))).alloc _⟩
  case round =>
    obtain ⟨k, hk, rfl, hb, h2, h1⟩ := hrel
    by_cases hlt : k < 256
    · have hc := h2.cell hlt
      have hf := h2.frozen k
      go_wp2_with fail
      go_roundw
      case rel => exact ⟨k + 1, by omega, by go_num, hb.setCell (by first | omega | (simp; done) | (simp; omega)) _, h2.fill, h1.other _ _ (by first | omega | (simp; done) | (simp; omega))⟩
      case measure => simp [intOf]; omega
    · obtain rfl : k = 256 := by omega
      have h2 := h2.full
      go_wp2_with (first | (with_reducible refine at_load 82 _ rfl ?_; refine wpList_load_arr Tryd.underlying82 iR rfl _ rfl _ rfl (h2) ?_) | (with_reducible refine at_store 82 _ _ rfl ?_; refine wpList_store_arr iR rfl _ _ rfl _ rfl rfl (h1) ?_))
      exact bodyPost_ret (v := .agg (arr .u32 256 z)) (results_arr Tryd.underlying82 iR rfl _ _ _ rfl (h1.row _ _)) rfl ⟨rfl, below_setRow hb (by omega) _⟩

set_option maxRecDepth 100000 in
set_option maxHeartbeats 1000000 in
theorem implOfRing (z : Nat → Int) (w : World) :
    Calls Tryd.prog 41 #[.agg (arr .u32 256 z)] w fun e w' => e = .returned (.agg (arr .u32 256 z)) ∧ Below w.heap.size w w' := by
  go_enter Tryd.func41, Tryd.ntmps41
  go_wp2_with (first | (with_reducible refine at_load 82 _ rfl ?_; refine wpList_load_arr Tryd.underlying82 iR rfl _ rfl _ rfl (((Blk.new w _ _ _ _ rfl).alloc _).alloc _) ?_))
  go_loopw [7] (fun i wr => ∃ k : Nat, k ≤ 256 ∧ i = .int .i64 k ∧ Below w.heap.size w wr ∧ Blk wr (w.heap.size + 1 + 1) .u32 256 (fun j => if j < k then z j else 0) 40 ∧ Blk wr (w.heap.size + 1) .u32 256 (fun _ => 0) 40) (fun i _ => 256 - (intOf i).toNat)
  case atStart => exact ⟨0, by omega, rfl, (((Below.refl _ _).alloc (Nat.le_refl _) _).alloc (by first | omega | (simp; done) | (simp; omega)) _).alloc (by first | omega | (simp; done) | (simp; omega)) _, (Blk.new _ _ _ _ _ (by first | omega | (simp; done) | (simp; omega))).start _, (Blk.new _ _ _ _ _ (by first | omega | (simp; done) | (simp; omega))).alloc _⟩
  case round =>
    obtain ⟨k, hk, rfl, hb, h2, h1⟩ := hrel
    by_cases hlt : k < 256
    · have hc := h2.cell hlt
      have hf := h2.frozen k
      go_wp2_with fail
      go_roundw
      case rel => exact ⟨k + 1, by omega, by go_num, hb.setCell (by first | omega | (simp; done) | (simp; omega)) _, h2.fill, h1.other _ _ (by first | omega | (simp; done) | (simp; omega))⟩
      case measure => simp [intOf]; omega
    · obtain rfl : k = 256 := by omega
      have h2 := h2.full
      go_wp2_with (first | (with_reducible refine at_load 40 _ rfl ?_; refine wpList_load_arr Tryd.underlying40 iU rfl _ rfl _ rfl (h2) ?_) | (with_reducible refine at_store 40 _ _ rfl ?_; refine wpList_store_arr iU rfl _ _ rfl _ rfl rfl (h1) ?_))
      exact bodyPost_ret (v := .agg (arr .u32 256 z)) (results_arr Tryd.underlying40 iU rfl _ _ _ rfl (h1.row _ _)) rfl ⟨rfl, below_setRow hb (by omega) _⟩









/-- Whether all 256 numbers are below the prime. -/
def redB (z : Nat → Int) : Bool := (List.range 256).all fun i => decide (z i < 8380417)
theorem redB_true {z : Nat → Int} (h : redB z = true) (i : Nat) (hi : i < 256) : z i < 8380417 := by
  unfold redB at h
  rw [List.all_eq_true] at h
  simpa using h i (List.mem_range.2 hi)
theorem lwReducedArr (g : Nat) (z : Nat → Int) (t : TypeId) (w : World) (h : Blk w g .u32 256 z t) :
    Calls Tryd.prog 43 #[.slice (some ⟨g, 0, none⟩) 256 256] w fun e w' => e = .returned (.bool (redB z)) ∧ w = w' := by
  have := lwReduced g 0 256 256 ((List.range 256).map z) w (by simp) (by omega) (fun j hj => by rw [Nat.zero_add, h.cell hj]; simp [List.getD, hj])
  rw [List.all_map] at this
  exact this

set_option maxRecDepth 100000 in
set_option maxHeartbeats 1000000 in
theorem lwRaw (z : Nat → Int) (w : World) (hz : ∀ i, i < 256 → 0 ≤ z i ∧ z i < 4294967296) :
    Calls Tryd.prog 32 #[.agg (arr .u32 256 z)] w fun e w' => e = .returned (.tuple #[.agg (arr .i64 256 z), .bool (redB z)]) ∧ Below w.heap.size w w' := by
  have HZ := Lib.hid hz; clear hz
  go_enter Tryd.func32, Tryd.ntmps32
  go_wp2_with (first | (with_reducible refine at_load 40 _ rfl ?_; refine wpList_load_arr Tryd.underlying40 iU rfl _ rfl _ rfl ((((Blk.new w _ _ _ _ rfl).alloc _).alloc _).rowOther _ _ (by first | omega | (simp; done) | (simp; omega))) ?_) | (with_reducible refine at_store 43 _ _ rfl ?_; refine wpList_store_arr iP rfl _ _ rfl _ rfl rfl (Blk.new _ _ _ _ _ (by first | omega | (simp; done) | (simp; omega))) ?_))
  go_loopw [9] (fun i wr => ∃ k : Nat, k ≤ 256 ∧ i = .int .i64 k ∧ Below w.heap.size w wr ∧ Blk wr (w.heap.size + 1 + 1) .i64 256 (fun j => if j < k then z j else 0) 43 ∧ Blk wr (w.heap.size + 1) .i64 256 (fun _ => 0) 43 ∧ Blk wr w.heap.size .u32 256 z 40) (fun i _ => 256 - (intOf i).toNat)
  case atStart => exact ⟨0, by omega, rfl, below_setRow ((((Below.refl _ _).alloc (Nat.le_refl _) _).alloc (by first | omega | (simp; done) | (simp; omega)) _).alloc (by first | omega | (simp; done) | (simp; omega)) _) (by first | omega | (simp; done) | (simp; omega)) _, ((Blk.new _ _ _ _ _ (by first | omega | (simp; done) | (simp; omega))).row _ _).start _, ((Blk.new _ _ _ _ _ (by first | omega | (simp; done) | (simp; omega))).alloc _).rowOther _ _ (by first | omega | (simp; done) | (simp; omega)), (((Blk.new _ _ _ _ _ rfl).alloc _).alloc _).rowOther _ _ (by first | omega | (simp; done) | (simp; omega))⟩
  case round =>
    obtain ⟨k, hk, rfl, hb, h2, h1, h0⟩ := hrel
    by_cases hlt : k < 256
    · have hc := h2.cell hlt
      have hf := h2.frozen k
      obtain ⟨hz0, hz1⟩ := HZ.out k hlt
      go_wp2_with fail
      go_roundw
      case rel => exact ⟨k + 1, by omega, by go_num, hb.setCell (by first | omega | (simp; done) | (simp; omega)) _, h2.fill, h1.other _ _ (by first | omega | (simp; done) | (simp; omega)), h0.other _ _ (by first | omega | (simp; done) | (simp; omega))⟩
      case measure => simp [intOf]; omega
    · obtain rfl : k = 256 := by omega
      have h2 := h2.full
      go_wp2_with fail
      refine wp_region_drew_tail 3 (by kernel_rfl) (by kernel_rfl) ?_
      simp only [List.take_succ_cons, List.take_zero, List.drop_succ_cons, List.drop_zero]
      (refine BigFrame.wpQuiet_want rfl (fun K hK => ?_); refine quiet_load_arr Tryd.underlying43 iP _ rfl _ rfl (fun w' hw' => (by obtain ⟨m, rfl⟩ := hw'; exact h2.drewN m)) (hK _ ?_); clear hK K; simp only [Act.put, List.setIfInBounds_toArray, List.set_cons_zero, List.set_cons_succ])
      repeat (go_big_quiet_step ((go_at_call 43; exact Calls.quiet_eq (lwReducedArr _ _ _ _ (h0.drewN _)))))
      refine wpQuiet_nil ?_
      intro _ hw'
      obtain ⟨nq, hw''⟩ := hw'
      subst hw''
      go_wp2_with (first | (with_reducible refine at_store 43 _ _ rfl ?_; refine wpList_store_arr iP rfl _ _ rfl _ rfl rfl (h1.drewN _) ?_))
      exact bodyPost_ret (v := .tuple #[.agg (arr .i64 256 z), .bool (redB z)]) (results_arr_tmp Tryd.underlying43 iP rfl _ _ _ _ rfl rfl ((h1.drewN _).row _ _)) rfl ⟨rfl, below_setRow (below_drewN hb _) (by first | omega | (simp; done) | (simp; omega)) _⟩

set_option maxRecDepth 100000 in
set_option maxHeartbeats 1000000 in
theorem lwPlain (z : Nat → Int) (w : World) (hz : ∀ i, i < 256 → 0 ≤ z i ∧ z i < 4294967296) :
    Calls Tryd.prog 17 #[.agg (arr .u32 256 z)] w fun e w' => e = .returned (.tuple #[.agg (arr .i64 256 fun i => mred (z i)), .bool (redB z)]) ∧ Below w.heap.size w w' := by
  have HZ := Lib.hid hz; clear hz
  go_enter Tryd.func17, Tryd.ntmps17
  go_wp2_with (first | (with_reducible refine at_load 40 _ rfl ?_; refine wpList_load_arr Tryd.underlying40 iU rfl _ rfl _ rfl ((Blk.new w _ _ _ _ rfl).alloc _) ?_))
  refine (lwRaw z _ HZ.out).mono ?_
  rintro e w1 ⟨rfl, hb1⟩
  have g0 := ((Blk.new w .u32 256 z 40 rfl).alloc (.cells (arr .i64 256 fun _ => 0) 43)).below hb1
  have g1 := (Blk.new (g := w.heap.size + 1) (w.alloc (.cells (arr .u32 256 z) 40)) .i64 256 (fun _ => 0) 43 (by first | omega | (simp; done) | (simp; omega))).below hb1
  have hB := belowChain (((Below.refl w.heap.size w).alloc (Nat.le_refl _) (.cells (arr .u32 256 z) 40)).alloc (by first | omega | (simp; done) | (simp; omega)) (.cells (arr .i64 256 fun _ => 0) 43)) hb1 (by first | omega | (simp; done) | (simp; omega))
  have hsz : w.heap.size + 1 < w1.heap.size := g1.lt
  clear hb1
  go_wp2_with (first | (with_reducible refine at_store 43 _ _ rfl ?_; refine wpList_store_arr iP rfl _ _ rfl _ rfl rfl (Blk.new _ _ _ _ _ (by first | omega | (simp; done) | (simp; omega))) ?_))
  go_loopw [6] (fun i wr => ∃ k : Nat, k ≤ 256 ∧ i = .int .i64 k ∧ Below w.heap.size w wr ∧ Blk wr w1.heap.size .i64 256 (fun j => if j < k then mred (z j) else z j) 43 ∧ Blk wr (w.heap.size + 1) .i64 256 (fun _ => 0) 43) (fun i _ => 256 - (intOf i).toNat)
  case atStart => exact ⟨0, by omega, rfl, below_setRow (hB.alloc (by first | omega | (simp; done) | (simp; omega)) _) (by first | omega | (simp; done) | (simp; omega)) _, ((Blk.new _ _ _ _ _ (by first | omega | (simp; done) | (simp; omega))).row _ _).start _, (g1.alloc _).rowOther _ _ (by first | omega | (simp; done) | (simp; omega))⟩
  case round =>
    obtain ⟨k, hk, rfl, hb, h2, h1⟩ := hrel
    by_cases hlt : k < 256
    · have hc := h2.cell hlt
      rw [if_neg (by omega)] at hc
      have hf := h2.frozen k
      obtain ⟨hz0, hz1⟩ := HZ.out k hlt
      go_wp2_with (first | (go_at_call 33; refine (spPlain _ _ hz0 hz1).mono ?_; rintro e w' ⟨rfl, rfl⟩))
      go_roundw
      case rel => exact ⟨k + 1, by omega, by go_num, hb.setCell (by first | omega | (simp; done) | (simp; omega)) _, Blk.fill (f := fun j => mred (z j)) h2, h1.other _ _ (by first | omega | (simp; done) | (simp; omega))⟩
      case measure => simp [intOf]; omega
    · obtain rfl : k = 256 := by omega
      have h2 := h2.full
      go_wp2_with (first | (with_reducible refine at_load 43 _ rfl ?_; refine wpList_load_arr Tryd.underlying43 iP rfl _ rfl _ rfl (h2) ?_) | (with_reducible refine at_store 43 _ _ rfl ?_; refine wpList_store_arr iP rfl _ _ rfl _ rfl rfl (h1) ?_))
      exact bodyPost_ret (v := .tuple #[.agg (arr .i64 256 fun i => mred (z i)), .bool (redB z)]) (results_arr_tmp Tryd.underlying43 iP rfl _ _ _ _ rfl rfl (h1.row _ _)) rfl ⟨rfl, below_setRow hb (by first | omega | (simp; done) | (simp; omega)) _⟩








set_option maxRecDepth 100000 in
set_option maxHeartbeats 1000000 in
theorem lwIs (z y : Nat → Int) (w : World) (hz : ∀ i, i < 256 → 0 ≤ z i ∧ z i < 4294967296) (he : ∀ i, i < 256 → (-4611686018427387904 ≤ y i ∧ y i < 4611686018427387904) ∧ z i = y i * 4193792 % 8380417) :
    Calls Tryd.prog 13 #[.agg (arr .u32 256 z), .agg (arr .i64 256 y)] w fun e w' => e = .returned (.bool true) ∧ Below w.heap.size w w' := by
  have HZ := Lib.hid hz; clear hz
  have HE := Lib.hid he; clear he
  go_enter Tryd.func13, Tryd.ntmps13
  go_wp2_with (first | (with_reducible refine at_load 40 _ rfl ?_; refine wpList_load_arr Tryd.underlying40 iU rfl _ rfl _ rfl ((Blk.new w _ _ _ _ rfl).alloc _) ?_))
  go_loopw [8] (fun i wr => ∃ k : Nat, k ≤ 256 ∧ i = .int .i64 k ∧ Below w.heap.size w wr ∧ Blk wr (w.heap.size + 1) .i64 256 y 43) (fun i _ => 256 - (intOf i).toNat)
  case atStart => exact ⟨0, by omega, rfl, (((Below.refl _ _).alloc (Nat.le_refl _) _).alloc (by first | omega | (simp; done) | (simp; omega)) _), Blk.new _ _ _ _ _ (by first | omega | (simp; done) | (simp; omega))⟩
  case round =>
    obtain ⟨k, hk, rfl, hb, h1⟩ := hrel
    by_cases hlt : k < 256
    · have hc := h1.cell hlt
      obtain ⟨hz0, hz1⟩ := HZ.out k hlt
      obtain ⟨⟨hy0, hy1⟩, hzy⟩ := HE.out k hlt
      have hne : (z k != y k * 4193792 % 8380417) = false := by simp [hzy]
      clear hzy
      go_wp2_with (first | (go_at_call 29; refine (spMont _ _ hy0 hy1).mono ?_; rintro e w' ⟨rfl, rfl⟩))
      go_roundw
      case rel => exact ⟨k + 1, by omega, by go_num, hb, h1⟩
      case measure => simp [intOf]; omega
    · go_wp2_with fail
      go_ret
      exact ⟨rfl, hb⟩




def nstep (m c : Int) : Int := if (if m < c then c else m) < -c then -c else (if m < c then c else m)
/-- The greatest magnitude of the first k numbers, centred. -/
def normTo (z : Nat → Int) : Nat → Int
  | 0 => 0
  | k + 1 => nstep (normTo z k) (cen (z k) 8380417)
theorem nstep_le (m c b : Int) : b ≤ nstep m c ↔ b ≤ m ∨ b ≤ max c (-c) := by
  unfold nstep
  split <;> split <;> omega
theorem normTo_le (z : Nat → Int) (b : Int) (k : Nat) : b ≤ normTo z k ↔ b ≤ 0 ∨ ∃ i, i < k ∧ b ≤ max (cen (z i) 8380417) (-cen (z i) 8380417) := by
  induction k with
  | zero => simp [normTo]
  | succ k ih =>
    rw [normTo, nstep_le, ih]
    constructor
    · rintro ((h | ⟨i, hi, h⟩) | h)
      · exact .inl h
      · exact .inr ⟨i, by omega, h⟩
      · exact .inr ⟨k, by omega, h⟩
    · rintro (h | ⟨i, hi, h⟩)
      · exact .inl (.inl h)
      · by_cases e : i = k
        · subst e; exact .inr h
        · exact .inl (.inr ⟨i, by omega, h⟩)
theorem normTo_bd (z : Nat → Int) (k : Nat) : 0 ≤ normTo z k ∧ normTo z k ≤ 8380417 := by
  induction k with
  | zero => simp [normTo]
  | succ k ih =>
    obtain ⟨h1, h2⟩ := cen_bd (z k) 8380417 (by omega)
    rw [normTo]
    unfold nstep
    split <;> split <;> omega
theorem magn_nn (c : Int) : 0 ≤ max c (-c) := by omega





end Go.Proofs.YtanfpnidlgejhaaDoor
