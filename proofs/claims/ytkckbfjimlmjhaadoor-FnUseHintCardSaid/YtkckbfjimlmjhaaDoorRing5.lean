/-
  Hints used over whole polynomials.
-/
import Derived.Test.YtkckbfjimlmjhaaDoorRing4
import Derived.Test.YtkckbfjimlmjhaaDoorBool
namespace Go.Proofs.YtkckbfjimlmjhaaDoor
open Go.RowKit

def bv (h : Nat → Bool) (i : Nat) : Int := if h i then 1 else 0
def uhv (s : Nat) (x : Nat → Int) (h : Nat → Bool) (i : Nat) : Int := useH (h i) (mred (x i)) (ss s 5) (mm s)
theorem bv_bd (h : Nat → Bool) (i : Nat) : 0 ≤ bv h i ∧ bv h i ≤ 1 := by unfold bv; split <;> omega
theorem useH_bd (h : Bool) (r : Int) (h0 : 0 ≤ r) (h1 : r < 8380417) : (0 ≤ useH h r 261888 16 ∧ useH h r 261888 16 < 256) ∧ (0 ≤ useH h r 95232 44 ∧ useH h r 95232 44 < 256) := by
  have e1 := decHi32_bd r h0 h1
  have e2 := decHi88_bd r h0 h1
  unfold useH
  cases h <;> simp <;> constructor <;> (try split) <;> omega
theorem uhv_bd (s : Nat) (x : Nat → Int) (h : Nat → Bool) (i : Nat) (hs : s < 3) : 0 ≤ uhv s x h i ∧ uhv s x h i < 256 := by
  have e := useH_bd (h i) (mred (x i)) (mred_lo _) (mred_hi _)
  have h3 : s = 0 ∨ s = 1 ∨ s = 2 := by omega
  rcases h3 with rfl | rfl | rfl
  · exact e.2
  · exact e.1
  · exact e.1

theorem iL : (Tryd.prog.info? 37).map (·.size) = some 256 := by kernel_rfl
@[go_sem] theorem ixL (z : Nat → Bool) (i : Nat) (w : World) (h : i < 256) : (Instr.index 37 (.agg (barr 256 z)) (.int .i64 (i : Int))).run Tryd.prog w = .ok (.bool (z i)) w :=
  run_index_barr Tryd.underlying37 Tryd.isAgg4 Tryd.sizeOf4 z i h w

theorem spUseHintS (s : Nat) (h : Nat → Bool) (x : Nat → Int) (k : Nat) (w : World) (hs : s < 3) :
    Calls Tryd.prog 13 #[.bool (h k), .int .i64 (mred (x k)), .int .i64 (ss s 5)] w fun e w' => e = .returned (.int .i64 (uhv s x h k)) ∧ w = w' := by
  have h3 : s = 0 ∨ s = 1 ∨ s = 2 := by omega
  rcases h3 with rfl | rfl | rfl
  · exact spUseHint88 (h k) (mred (x k)) w (mred_lo _) (mred_hi _)
  · exact spUseHint32 (h k) (mred (x k)) w (mred_lo _) (mred_hi _)
  · exact spUseHint32 (h k) (mred (x k)) w (mred_lo _) (mred_hi _)

set_option maxRecDepth 100000 in
set_option maxHeartbeats 1000000 in
theorem useHintP (s : Nat) (x : Nat → Int) (h : Nat → Bool) (w : World) (hs : s < 3) (hx : ∀ i, i < 256 → 0 ≤ x i ∧ x i < 8380417) :
    Calls Tryd.prog 33 #[.agg (arr .u32 256 x), .agg (arr .u8 256 (bv h)), .agg (arr .i64 8 (ps s))] w fun e w' => e = .returned (.agg (arr .u8 256 (uhv s x h))) ∧ Below w.heap.size w w' := by
  have HX := Lib.hid hx; clear hx
  have h3 : s = 0 ∨ s = 1 ∨ s = 2 := by omega
  clear hs
  rcases h3 with rfl | rfl | rfl
  · have hg := Blk.cellv (((Blk.new (g := w.heap.size + 1 + 1) ((w.alloc (.cells (arr .u32 256 x) 53)).alloc (.cells (arr .u8 256 (bv h)) 32)) .i64 8 (ps 0) 63 (by first | omega | (simp; done) | (simp; omega))).alloc (.cells (arr .u8 256 (fun _ => 0)) 32)).alloc (.cells (arr .u8 256 (fun _ => 0)) 32)) 4 88 (by omega) rfl
    go_enter Tryd.func33, Tryd.ntmps33
    go_wp2_with fail
    clear hg
    go_loopw [30] (fun i wr => ∃ k : Nat, k ≤ 256 ∧ i = .int .i64 k ∧ Below w.heap.size w wr ∧ Blk wr (w.heap.size + 1 + 1 + 1 + 1) .u8 256 (fun j => if j < k then uhv 0 x h j else 0) 32 ∧ Blk wr (w.heap.size + 1 + 1 + 1) .u8 256 (fun _ => 0) 32 ∧ Blk wr (w.heap.size + 1) .u8 256 (bv h) 32 ∧ Blk wr w.heap.size .u32 256 x 53) (fun i _ => 256 - (intOf i).toNat)
    case atStart => exact ⟨0, by omega, rfl, ((((((Below.refl w.heap.size w).alloc (by first | omega | (simp; done) | (simp; omega)) _).alloc (by first | omega | (simp; done) | (simp; omega)) _).alloc (by first | omega | (simp; done) | (simp; omega)) _).alloc (by first | omega | (simp; done) | (simp; omega)) _).alloc (by first | omega | (simp; done) | (simp; omega)) _), (Blk.new _ _ _ _ _ (by first | omega | (simp; done) | (simp; omega))).start _, ((Blk.new _ _ _ _ _ (by first | omega | (simp; done) | (simp; omega))).alloc _), ((((Blk.new _ _ _ _ _ (by first | omega | (simp; done) | (simp; omega))).alloc _).alloc _).alloc _), (((((Blk.new _ _ _ _ _ (by first | omega | (simp; done) | (simp; omega))).alloc _).alloc _).alloc _).alloc _)⟩
    case round =>
      obtain ⟨k, hk, rfl, hb, h4, h3, h1, h0⟩ := hrel
      by_cases hlt : k < 256
      · have hc4 := h4.cell hlt
        have hf := h4.frozen k
        have hc1 := h1.cell hlt
        have hc0 := h0.cell hlt
        obtain ⟨hx0, hx1⟩ := HX.out k hlt
        have huh : ∀ w', Calls Tryd.prog 40 #[.int .u32 (x k), .int .u8 (bv h k)] w' fun e w'' => e = .returned (.int .u8 (uhv 0 x h k)) ∧ w' = w'' := fun w' => useHint88 (x k) (h k) w' hx0 (by omega)
        have huh := Lib.hid huh
        go_wp2_with fail
        refine wp_region_drew_tail 9 (by kernel_rfl) (by kernel_rfl) ?_
        simp only [List.take_succ_cons, List.take_zero, List.drop_succ_cons, List.drop_zero]
        repeat (go_big_quiet_step ((first | (go_at_call 40; exact Calls.quiet_eq (huh.out _)))))
        refine wpQuiet_nil ?_
        intro _ hw'
        obtain ⟨nq, hw''⟩ := hw'
        subst hw''
        go_wp2_with fail
        go_roundw
        case rel => exact ⟨k + 1, by omega, by go_num, (below_drewM hb _).setCell (by first | omega | (simp; done) | (simp; omega)) _, Blk.fill (f := uhv 0 x h) (h4.drewN _), (h3.drewN _).other _ _ (by first | omega | (simp; done) | (simp; omega)), (h1.drewN _).other _ _ (by first | omega | (simp; done) | (simp; omega)), (h0.drewN _).other _ _ (by first | omega | (simp; done) | (simp; omega))⟩
        case measure => simp [intOf]; omega
      · obtain rfl : k = 256 := by omega
        have h4 := h4.full
        go_wp2_with (first | (with_reducible refine at_load 32 _ rfl ?_; refine wpList_load_arr Tryd.underlying32 iB rfl _ rfl _ rfl (h4) ?_) | (with_reducible refine at_store 32 _ _ rfl ?_; refine wpList_store_arr iB rfl _ _ rfl _ rfl rfl (h3) ?_))
        exact bodyPost_ret (v := .agg (arr .u8 256 (uhv 0 x h))) (results_arr Tryd.underlying32 iB rfl _ _ _ rfl (h3.row _ _)) rfl ⟨rfl, below_setRow hb (by first | omega | (simp; done) | (simp; omega)) _⟩
  · have hg := Blk.cellv (((Blk.new (g := w.heap.size + 1 + 1) ((w.alloc (.cells (arr .u32 256 x) 53)).alloc (.cells (arr .u8 256 (bv h)) 32)) .i64 8 (ps 1) 63 (by first | omega | (simp; done) | (simp; omega))).alloc (.cells (arr .u8 256 (fun _ => 0)) 32)).alloc (.cells (arr .u8 256 (fun _ => 0)) 32)) 4 32 (by omega) rfl
    go_enter Tryd.func33, Tryd.ntmps33
    go_wp2_with fail
    clear hg
    go_loopw [15] (fun i wr => ∃ k : Nat, k ≤ 256 ∧ i = .int .i64 k ∧ Below w.heap.size w wr ∧ Blk wr (w.heap.size + 1 + 1 + 1 + 1) .u8 256 (fun j => if j < k then uhv 1 x h j else 0) 32 ∧ Blk wr (w.heap.size + 1 + 1 + 1) .u8 256 (fun _ => 0) 32 ∧ Blk wr (w.heap.size + 1) .u8 256 (bv h) 32 ∧ Blk wr w.heap.size .u32 256 x 53) (fun i _ => 256 - (intOf i).toNat)
    case atStart => exact ⟨0, by omega, rfl, ((((((Below.refl w.heap.size w).alloc (by first | omega | (simp; done) | (simp; omega)) _).alloc (by first | omega | (simp; done) | (simp; omega)) _).alloc (by first | omega | (simp; done) | (simp; omega)) _).alloc (by first | omega | (simp; done) | (simp; omega)) _).alloc (by first | omega | (simp; done) | (simp; omega)) _), (Blk.new _ _ _ _ _ (by first | omega | (simp; done) | (simp; omega))).start _, ((Blk.new _ _ _ _ _ (by first | omega | (simp; done) | (simp; omega))).alloc _), ((((Blk.new _ _ _ _ _ (by first | omega | (simp; done) | (simp; omega))).alloc _).alloc _).alloc _), (((((Blk.new _ _ _ _ _ (by first | omega | (simp; done) | (simp; omega))).alloc _).alloc _).alloc _).alloc _)⟩
    case round =>
      obtain ⟨k, hk, rfl, hb, h4, h3, h1, h0⟩ := hrel
      by_cases hlt : k < 256
      · have hc4 := h4.cell hlt
        have hf := h4.frozen k
        have hc1 := h1.cell hlt
        have hc0 := h0.cell hlt
        obtain ⟨hx0, hx1⟩ := HX.out k hlt
        have huh : ∀ w', Calls Tryd.prog 39 #[.int .u32 (x k), .int .u8 (bv h k)] w' fun e w'' => e = .returned (.int .u8 (uhv 1 x h k)) ∧ w' = w'' := fun w' => useHint32 (x k) (h k) w' hx0 (by omega)
        have huh := Lib.hid huh
        go_wp2_with fail
        refine wp_region_drew_tail 9 (by kernel_rfl) (by kernel_rfl) ?_
        simp only [List.take_succ_cons, List.take_zero, List.drop_succ_cons, List.drop_zero]
        repeat (go_big_quiet_step ((first | (go_at_call 39; exact Calls.quiet_eq (huh.out _)))))
        refine wpQuiet_nil ?_
        intro _ hw'
        obtain ⟨nq, hw''⟩ := hw'
        subst hw''
        go_wp2_with fail
        go_roundw
        case rel => exact ⟨k + 1, by omega, by go_num, (below_drewM hb _).setCell (by first | omega | (simp; done) | (simp; omega)) _, Blk.fill (f := uhv 1 x h) (h4.drewN _), (h3.drewN _).other _ _ (by first | omega | (simp; done) | (simp; omega)), (h1.drewN _).other _ _ (by first | omega | (simp; done) | (simp; omega)), (h0.drewN _).other _ _ (by first | omega | (simp; done) | (simp; omega))⟩
        case measure => simp [intOf]; omega
      · obtain rfl : k = 256 := by omega
        have h4 := h4.full
        go_wp2_with (first | (with_reducible refine at_load 32 _ rfl ?_; refine wpList_load_arr Tryd.underlying32 iB rfl _ rfl _ rfl (h4) ?_) | (with_reducible refine at_store 32 _ _ rfl ?_; refine wpList_store_arr iB rfl _ _ rfl _ rfl rfl (h3) ?_))
        exact bodyPost_ret (v := .agg (arr .u8 256 (uhv 1 x h))) (results_arr Tryd.underlying32 iB rfl _ _ _ rfl (h3.row _ _)) rfl ⟨rfl, below_setRow hb (by first | omega | (simp; done) | (simp; omega)) _⟩
  · have hg := Blk.cellv (((Blk.new (g := w.heap.size + 1 + 1) ((w.alloc (.cells (arr .u32 256 x) 53)).alloc (.cells (arr .u8 256 (bv h)) 32)) .i64 8 (ps 2) 63 (by first | omega | (simp; done) | (simp; omega))).alloc (.cells (arr .u8 256 (fun _ => 0)) 32)).alloc (.cells (arr .u8 256 (fun _ => 0)) 32)) 4 32 (by omega) rfl
    go_enter Tryd.func33, Tryd.ntmps33
    go_wp2_with fail
    clear hg
    go_loopw [15] (fun i wr => ∃ k : Nat, k ≤ 256 ∧ i = .int .i64 k ∧ Below w.heap.size w wr ∧ Blk wr (w.heap.size + 1 + 1 + 1 + 1) .u8 256 (fun j => if j < k then uhv 2 x h j else 0) 32 ∧ Blk wr (w.heap.size + 1 + 1 + 1) .u8 256 (fun _ => 0) 32 ∧ Blk wr (w.heap.size + 1) .u8 256 (bv h) 32 ∧ Blk wr w.heap.size .u32 256 x 53) (fun i _ => 256 - (intOf i).toNat)
    case atStart => exact ⟨0, by omega, rfl, ((((((Below.refl w.heap.size w).alloc (by first | omega | (simp; done) | (simp; omega)) _).alloc (by first | omega | (simp; done) | (simp; omega)) _).alloc (by first | omega | (simp; done) | (simp; omega)) _).alloc (by first | omega | (simp; done) | (simp; omega)) _).alloc (by first | omega | (simp; done) | (simp; omega)) _), (Blk.new _ _ _ _ _ (by first | omega | (simp; done) | (simp; omega))).start _, ((Blk.new _ _ _ _ _ (by first | omega | (simp; done) | (simp; omega))).alloc _), ((((Blk.new _ _ _ _ _ (by first | omega | (simp; done) | (simp; omega))).alloc _).alloc _).alloc _), (((((Blk.new _ _ _ _ _ (by first | omega | (simp; done) | (simp; omega))).alloc _).alloc _).alloc _).alloc _)⟩
    case round =>
      obtain ⟨k, hk, rfl, hb, h4, h3, h1, h0⟩ := hrel
      by_cases hlt : k < 256
      · have hc4 := h4.cell hlt
        have hf := h4.frozen k
        have hc1 := h1.cell hlt
        have hc0 := h0.cell hlt
        obtain ⟨hx0, hx1⟩ := HX.out k hlt
        have huh : ∀ w', Calls Tryd.prog 39 #[.int .u32 (x k), .int .u8 (bv h k)] w' fun e w'' => e = .returned (.int .u8 (uhv 2 x h k)) ∧ w' = w'' := fun w' => useHint32 (x k) (h k) w' hx0 (by omega)
        have huh := Lib.hid huh
        go_wp2_with fail
        refine wp_region_drew_tail 9 (by kernel_rfl) (by kernel_rfl) ?_
        simp only [List.take_succ_cons, List.take_zero, List.drop_succ_cons, List.drop_zero]
        repeat (go_big_quiet_step ((first | (go_at_call 39; exact Calls.quiet_eq (huh.out _)))))
        refine wpQuiet_nil ?_
        intro _ hw'
        obtain ⟨nq, hw''⟩ := hw'
        subst hw''
        go_wp2_with fail
        go_roundw
        case rel => exact ⟨k + 1, by omega, by go_num, (below_drewM hb _).setCell (by first | omega | (simp; done) | (simp; omega)) _, Blk.fill (f := uhv 2 x h) (h4.drewN _), (h3.drewN _).other _ _ (by first | omega | (simp; done) | (simp; omega)), (h1.drewN _).other _ _ (by first | omega | (simp; done) | (simp; omega)), (h0.drewN _).other _ _ (by first | omega | (simp; done) | (simp; omega))⟩
        case measure => simp [intOf]; omega
      · obtain rfl : k = 256 := by omega
        have h4 := h4.full
        go_wp2_with (first | (with_reducible refine at_load 32 _ rfl ?_; refine wpList_load_arr Tryd.underlying32 iB rfl _ rfl _ rfl (h4) ?_) | (with_reducible refine at_store 32 _ _ rfl ?_; refine wpList_store_arr iB rfl _ _ rfl _ rfl rfl (h3) ?_))
        exact bodyPost_ret (v := .agg (arr .u8 256 (uhv 2 x h))) (results_arr Tryd.underlying32 iB rfl _ _ _ rfl (h3.row _ _)) rfl ⟨rfl, below_setRow hb (by first | omega | (simp; done) | (simp; omega)) _⟩

set_option maxRecDepth 100000 in
set_option maxHeartbeats 1000000 in
theorem zzUseHint (s : Nat) (x : Nat → Int) (h : Nat → Bool) (w : World) (hs : s < 3) (hp : Par w) (hx : ∀ i, i < 256 → 0 ≤ x i ∧ x i < 8380417) :
    Calls Tryd.prog 26 #[.int .i64 (nm s), .agg (arr .u32 256 x), .agg (arr .u8 256 (bv h))] w fun e w' => e = .returned (.agg (arr .u8 256 (uhv s x h))) ∧ Below w.heap.size w w' := by
  have HX := Lib.hid hx; clear hx
  go_enter Tryd.func26, Tryd.ntmps26
  go_wp2_with fail
  refine wp_region_below_tail 5 (by kernel_rfl) (by kernel_rfl) ?_
  simp only [List.take_succ_cons, List.take_zero, List.drop_succ_cons, List.drop_zero]
  (refine BigFrame.wpQuiet_want rfl (fun K hK => ?_); refine quiet_load_arr Tryd.underlying53 iR _ rfl _ rfl (fun w' hw' => Blk.below ((((Blk.new _ _ _ _ _ (by first | omega | (simp; done) | (simp; omega))).alloc _).alloc _)) hw') (hK _ ?_); clear hK K; simp only [Act.put, List.setIfInBounds_toArray, List.set_cons_zero, List.set_cons_succ])
  (refine BigFrame.wpQuiet_want rfl (fun K hK => ?_); refine quiet_load_arr Tryd.underlying32 iB _ rfl _ rfl (fun w' hw' => Blk.below (((Blk.new _ _ _ _ _ (by first | omega | (simp; done) | (simp; omega))).alloc _)) hw') (hK _ ?_); clear hK K; simp only [Act.put, List.setIfInBounds_toArray, List.set_cons_zero, List.set_cons_succ])
  (first | go_big_quiet_skip | (go_big_quiet_want; go_big_quiet_op; first | go_big_quiet_on | (apply Exists.intro; refine ⟨fun _ _ => rfl, ?_⟩; go_big_quiet_on)))
  go_big_quiet_step ((intro hw'; go_at_call 32; exact Calls.in_below hw' (zzSet s _ hs ((((hp.alloc _).alloc _).alloc _).below hw'))))
  go_big_quiet_step ((intro hw'; go_at_call 33; exact Calls.in_below hw' (useHintP s x h _ hs HX.out)))
  refine wpQuiet_nil ?_
  intro w2 hb2
  have hr := Blk.below (Blk.new (g := w.heap.size + 1 + 1) _ .u8 256 (fun _ => 0) 32 (by first | omega | (simp; done) | (simp; omega))) hb2
  have hB := belowChain ((((Below.refl w.heap.size w).alloc (by first | omega | (simp; done) | (simp; omega)) _).alloc (by first | omega | (simp; done) | (simp; omega)) _).alloc (by first | omega | (simp; done) | (simp; omega)) _) hb2 (by first | omega | (simp; done) | (simp; omega))
  go_wp2_with (first | (with_reducible refine at_store 32 _ _ rfl ?_; refine wpList_store_arr iB rfl _ _ rfl _ rfl rfl (hr) ?_))
  exact bodyPost_ret (v := (.agg (arr .u8 256 (uhv s x h)))) (results_arr Tryd.underlying32 iB rfl _ _ _ rfl (hr.row _ _)) rfl ⟨rfl, below_setRow hB (by first | omega | (simp; done) | (simp; omega)) _⟩

set_option maxRecDepth 100000 in
set_option maxHeartbeats 1000000 in
theorem implUseHint (s : Nat) (x : Nat → Int) (h : Nat → Bool) (w : World) (hs : s < 3) (hp : Par w) (hx : ∀ i, i < 256 → 0 ≤ x i ∧ x i < 8380417) :
    Calls Tryd.prog 12 #[.int .i64 (nm s), .agg (arr .u32 256 x), .agg (arr .u8 256 (bv h))] w fun e w' => e = .returned (.agg (arr .u8 256 (uhv s x h))) ∧ Below w.heap.size w w' := by
  have HX := Lib.hid hx; clear hx
  go_enter Tryd.func12, Tryd.ntmps12
  go_wp2_with fail
  refine wp_region_below_tail 5 (by kernel_rfl) (by kernel_rfl) ?_
  simp only [List.take_succ_cons, List.take_zero, List.drop_succ_cons, List.drop_zero]
  (first | go_big_quiet_skip | (go_big_quiet_want; go_big_quiet_op; first | go_big_quiet_on | (apply Exists.intro; refine ⟨fun _ _ => rfl, ?_⟩; go_big_quiet_on)))
  (refine BigFrame.wpQuiet_want rfl (fun K hK => ?_); refine quiet_load_arr Tryd.underlying23 iU _ rfl _ rfl (fun w' hw' => Blk.below ((((Blk.new _ _ _ _ _ (by first | omega | (simp; done) | (simp; omega))).alloc _).alloc _)) hw') (hK _ ?_); clear hK K; simp only [Act.put, List.setIfInBounds_toArray, List.set_cons_zero, List.set_cons_succ])
  go_big_quiet_step ((intro hw'; go_at_call 24; exact Calls.in_below hw' (implRing x _)))
  (refine BigFrame.wpQuiet_want rfl (fun K hK => ?_); refine quiet_load_arr Tryd.underlying32 iB _ rfl _ rfl (fun w' hw' => Blk.below (((Blk.new _ _ _ _ _ (by first | omega | (simp; done) | (simp; omega))).alloc _)) hw') (hK _ ?_); clear hK K; simp only [Act.put, List.setIfInBounds_toArray, List.set_cons_zero, List.set_cons_succ])
  go_big_quiet_step ((intro hw'; go_at_call 26; exact Calls.in_below hw' (zzUseHint s x h _ hs ((((hp.alloc _).alloc _).alloc _).below hw') HX.out)))
  refine wpQuiet_nil ?_
  intro w2 hb2
  have hr := Blk.below (Blk.new (g := w.heap.size + 1 + 1) _ .u8 256 (fun _ => 0) 32 (by first | omega | (simp; done) | (simp; omega))) hb2
  have hB := belowChain ((((Below.refl w.heap.size w).alloc (by first | omega | (simp; done) | (simp; omega)) _).alloc (by first | omega | (simp; done) | (simp; omega)) _).alloc (by first | omega | (simp; done) | (simp; omega)) _) hb2 (by first | omega | (simp; done) | (simp; omega))
  go_wp2_with (first | (with_reducible refine at_store 32 _ _ rfl ?_; refine wpList_store_arr iB rfl _ _ rfl _ rfl rfl (hr) ?_))
  exact bodyPost_ret (v := (.agg (arr .u8 256 (uhv s x h)))) (results_arr Tryd.underlying32 iB rfl _ _ _ rfl (hr.row _ _)) rfl ⟨rfl, below_setRow hB (by first | omega | (simp; done) | (simp; omega)) _⟩

set_option maxRecDepth 100000 in
set_option maxHeartbeats 1000000 in
theorem walkFnUseHint (n : Int) (x : Nat → Int) (h : Nat → Bool) (w : World) (hp : Par w) (n0 : 0 ≤ n) (n1 : n < 256) (hx : ∀ i, i < 256 → 0 ≤ x i ∧ x i < 4294967296) :
    Calls Tryd.prog 4 #[.int .u8 n, .agg (arr .u32 256 x), .agg (barr 256 h)] w fun e w' => e = .returned (.bool true) ∧ Below w.heap.size w w' := by
  have Hx := Lib.hid hx; clear hx
  obtain ⟨s, hs⟩ : ∃ s : Nat, (s : Int) = n % 3 := ⟨(n % 3).toNat, by omega⟩
  have hs3 : s < 3 := by omega
  go_enter Tryd.func4, Tryd.ntmps4
  go_wp2_with fail
  refine (lwSet _ s _ n0 n1 hs).mono ?_
  rintro e w1 ⟨rfl, hb1⟩
  clear hs
  have fx := Blk.below ((Blk.new (g := w.heap.size) w .u32 256 x 23 rfl).alloc (.cells (barr 256 h) 37)) hb1
  have fh := BBlk.below (BBlk.new (g := w.heap.size + 1) (w.alloc (.cells (arr .u32 256 x) 23)) 256 h 37 (by first | omega | (simp; done) | (simp; omega))) hb1
  have hB1 := belowChain (((Below.refl w.heap.size w).alloc (by first | omega | (simp; done) | (simp; omega)) (.cells (arr .u32 256 x) 23)).alloc (by first | omega | (simp; done) | (simp; omega)) (.cells (barr 256 h) 37)) hb1 (by first | omega | (simp; done) | (simp; omega))
  have hlx := fx.lt
  have hlh := fh.lt
  clear hb1
  go_wp2_with (first | (with_reducible refine at_store 25 _ _ rfl ?_; refine wpList_store_arr iSet rfl _ _ rfl _ rfl rfl (Blk.zeros8 _ _ rfl) ?_) | (with_reducible refine at_load 23 _ rfl ?_; refine wpList_load_arr Tryd.underlying23 iU rfl _ rfl _ rfl ((fx.alloc _).rowOther _ _ (by first | omega | (simp; done) | (simp; omega))) ?_))
  refine (lwPlain x _ Hx.out).mono ?_
  rintro e w2 ⟨rfl, hb2⟩
  have fx := Blk.below ((fx.alloc (.cells #[.int .i64 0, .int .i64 0, .int .i64 0, .int .i64 0, .int .i64 0, .int .i64 0, .int .i64 0, .int .i64 0] 25)).rowOther w1.heap.size (arr .i64 8 (ss s)) (by first | omega | (simp; done) | (simp; omega))) hb2
  have fh := BBlk.below ((fh.alloc (.cells #[.int .i64 0, .int .i64 0, .int .i64 0, .int .i64 0, .int .i64 0, .int .i64 0, .int .i64 0, .int .i64 0] 25)).rowOther w1.heap.size (arr .i64 8 (ss s)) (by first | omega | (simp; done) | (simp; omega))) hb2
  have fs := Blk.below ((Blk.zeros8 w1 25 rfl).row .i64 (ss s)) hb2
  have hB2 := belowChain (below_setRow (hB1.alloc (by first | omega | (simp; done) | (simp; omega)) (.cells #[.int .i64 0, .int .i64 0, .int .i64 0, .int .i64 0, .int .i64 0, .int .i64 0, .int .i64 0, .int .i64 0] 25)) (g := w1.heap.size) (by first | omega | (simp; done) | (simp; omega)) (arr .i64 8 (ss s))) hb2 (by first | omega | (simp; done) | (simp; omega))
  have hls := fs.lt
  clear hb2 hB1
  have fx := ((fx.alloc (.cells (arr .i64 256 (fun _ => 0)) 29)).rowOther w2.heap.size (arr .i64 256 (fun i => mred (x i))) (by first | omega | (simp; done) | (simp; omega)))
  have fh := ((fh.alloc (.cells (arr .i64 256 (fun _ => 0)) 29)).rowOther w2.heap.size (arr .i64 256 (fun i => mred (x i))) (by first | omega | (simp; done) | (simp; omega)))
  have fs := ((fs.alloc (.cells (arr .i64 256 (fun _ => 0)) 29)).rowOther w2.heap.size (arr .i64 256 (fun i => mred (x i))) (by first | omega | (simp; done) | (simp; omega)))
  have fa := (Blk.new w2 .i64 256 (fun _ => 0) 29 rfl).row .i64 (fun i => mred (x i))
  have hB3 := below_setRow (hB2.alloc (by first | omega | (simp; done) | (simp; omega)) (.cells (arr .i64 256 (fun _ => 0)) 29)) (g := w2.heap.size) (by first | omega | (simp; done) | (simp; omega)) (arr .i64 256 (fun i => mred (x i)))
  have hz3 : ((w2.alloc (.cells (arr .i64 256 (fun _ => 0)) 29)).setRow w2.heap.size (arr .i64 256 (fun i => mred (x i)))).heap.size = w2.heap.size + 1 := by rw [setRow_size]; simp
  cases hrx : redB x with
  | false =>
    go_wp2_with (first | (with_reducible refine at_store 29 _ _ rfl ?_; refine wpList_store_arr iP rfl _ _ rfl _ rfl rfl (Blk.new _ _ _ _ _ rfl) ?_))
    go_ret
    exact ⟨rfl, hB3⟩
  | true =>
    have QX := Lib.hid (fun i (hi : i < 256) => And.intro (Hx.out i hi).1 (redB_true hrx i hi))
    clear hrx hB2
    go_wp2_with (first | (with_reducible refine at_store 29 _ _ rfl ?_; refine wpList_store_arr iP rfl _ _ rfl _ rfl rfl (Blk.new _ _ _ _ _ rfl) ?_) | (with_reducible refine at_store 32 _ _ rfl ?_; refine wpList_store_arr iB rfl _ _ rfl _ rfl rfl (Blk.new _ _ _ _ _ (by first | omega | (simp; done) | (simp; omega))) ?_) | (with_reducible refine at_load 37 _ rfl ?_; refine wpList_load_barr Tryd.underlying37 iL rfl _ rfl _ rfl ((fh.alloc _).rowOther _ _ (by first | omega | (simp; done) | (simp; omega))) ?_))
    go_loopw [30] (fun i wr => ∃ k : Nat, k ≤ 256 ∧ i = .int .i64 k ∧ Below w.heap.size w wr ∧ Blk wr (w2.heap.size + 1) .u8 256 (fun j => if j < k then bv h j else 0) 32 ∧ Blk wr w2.heap.size .i64 256 (fun i => mred (x i)) 29 ∧ Blk wr w1.heap.size .i64 8 (ss s) 25 ∧ BBlk wr (w.heap.size + 1) 256 h 37 ∧ Blk wr w.heap.size .u32 256 x 23) (fun i _ => 256 - (intOf i).toNat)
    case atStart => exact ⟨0, by omega, rfl, below_setRow (hB3.alloc (by first | omega | (simp; done) | (simp; omega)) _) (by first | omega | (simp; done) | (simp; omega)) _, ((Blk.new _ _ _ _ _ (by first | omega | (simp; done) | (simp; omega))).row _ _).start _, (fa.alloc _).rowOther _ _ (by first | omega | (simp; done) | (simp; omega)), (fs.alloc _).rowOther _ _ (by first | omega | (simp; done) | (simp; omega)), (fh.alloc _).rowOther _ _ (by first | omega | (simp; done) | (simp; omega)), (fx.alloc _).rowOther _ _ (by first | omega | (simp; done) | (simp; omega))⟩
    case round =>
      clear fx fh fs fa hB3 hz3
      obtain ⟨k, hk, rfl, hb, h4, h3, h2, h1, h0⟩ := hrel
      by_cases hlt : k < 256
      · have hc4 := h4.cell hlt
        have hf := h4.frozen k
        have hOne : ∀ w', Calls Tryd.prog 11 #[.bool (h k)] w' fun e w'' => e = .returned (.int .u8 (bv h k)) ∧ w' = w'' := fun w' => lwOne (h k) w'
        have HOne := Lib.hid hOne; clear hOne
        go_wp2_with (first | (go_at_call 11; refine (HOne.out _).mono ?_; rintro e w' ⟨rfl, rfl⟩))
        go_roundw
        case rel => exact ⟨k + 1, by omega, by go_num, hb.setCell (by first | omega | (simp; done) | (simp; omega)) _, Blk.fill (f := bv h) h4, h3.other _ _ (by first | omega | (simp; done) | (simp; omega)), h2.other _ _ (by first | omega | (simp; done) | (simp; omega)), h1.other _ _ (by first | omega | (simp; done) | (simp; omega)), h0.other _ _ (by first | omega | (simp; done) | (simp; omega))⟩
        case measure => simp [intOf]; omega
      · obtain rfl : k = 256 := by omega
        have h4 := h4.full
        go_wp2_with (first | (with_reducible refine at_load 23 _ rfl ?_; refine wpList_load_arr Tryd.underlying23 iU rfl _ rfl _ rfl (h0) ?_) | (with_reducible refine at_load 32 _ rfl ?_; refine wpList_load_arr Tryd.underlying32 iB rfl _ rfl _ rfl (h4) ?_))
        refine (implUseHint s x h _ hs3 (hp.below hb) QX.out).mono ?_
        rintro e w3 ⟨rfl, hb3⟩
        have h3 := Blk.below h3 hb3
        have h2 := Blk.below h2 hb3
        have h1 := BBlk.below h1 hb3
        have hB4 := belowChain hb hb3 hb.size
        have hl3 := h3.lt
        have hl2 := h2.lt
        have hl1 := h1.lt
        clear hb hb3 h4 h0
        go_wp2_with (first | (with_reducible refine at_store 32 _ _ rfl ?_; refine wpList_store_arr iB rfl _ _ rfl _ rfl rfl (Blk.new _ _ _ _ _ rfl) ?_))
        go_loopw [15] (fun i wr => ∃ k : Nat, k ≤ 256 ∧ i = .int .i64 k ∧ Below w.heap.size w wr ∧ Blk wr w3.heap.size .u8 256 (uhv s x h) 32 ∧ Blk wr w2.heap.size .i64 256 (fun i => mred (x i)) 29 ∧ Blk wr w1.heap.size .i64 8 (ss s) 25 ∧ BBlk wr (w.heap.size + 1) 256 h 37) (fun i _ => 256 - (intOf i).toNat)
        case atStart => exact ⟨0, by omega, rfl, below_setRow (hB4.alloc (by first | omega | (simp; done) | (simp; omega)) _) (by first | omega | (simp; done) | (simp; omega)) _, (Blk.new _ _ _ _ _ rfl).row _ _, (h3.alloc _).rowOther _ _ (by first | omega | (simp; done) | (simp; omega)), (h2.alloc _).rowOther _ _ (by first | omega | (simp; done) | (simp; omega)), (h1.alloc _).rowOther _ _ (by first | omega | (simp; done) | (simp; omega))⟩
        case round =>
          obtain ⟨k, hk, rfl, hb, g3, g2, g1, g0⟩ := hrel
          by_cases hlt : k < 256
          · have hc3 := g3.cell hlt
            have hc2 := g2.cell hlt
            have hc1 := g1.cellv 5 _ (by omega) rfl
            have hc0 := g0.cell hlt
            obtain ⟨hu0, hu1⟩ := uhv_bd s x h k hs3
            go_wp2_with fail
            go_quiet ((first | (go_at_call 13; exact Calls.quiet_eq (spUseHintS s h x k _ hs3))))
            go_wp2_with fail
            go_roundw
            case rel => exact ⟨k + 1, by omega, by go_num, below_drewM hb _, g3.drewN _, g2.drewN _, g1.drewN _, g0.drewN _⟩
            case measure => simp [intOf]; omega
          · go_wp2_with fail
            go_ret
            exact ⟨rfl, hb⟩

end Go.Proofs.YtkckbfjimlmjhaaDoor
