/-
  Hints of whole polynomials.
-/
import Derived.Test.YtkckbfjimlmjhaaDoorRing2
namespace Go.Proofs.YtkckbfjimlmjhaaDoor
open Go.RowKit

/-- The sum of the first k numbers. -/
def sumTo (f : Nat → Int) : Nat → Int
  | 0 => 0
  | k + 1 => sumTo f k + f k
theorem mkH_bd (a b g : Int) : 0 ≤ mkH a b g ∧ mkH a b g ≤ 1 := by unfold mkH; split <;> omega
theorem sumTo_bd (f : Nat → Int) (k : Nat) (hf : ∀ i, 0 ≤ f i ∧ f i ≤ 1) : 0 ≤ sumTo f k ∧ sumTo f k ≤ k := by
  induction k with
  | zero => simp [sumTo]
  | succ k ih => have := hf k; rw [sumTo]; omega
/-- The hint at a place. -/
def mkv (x y z : Nat → Int) (g : Int) (i : Nat) : Int := mkH (mred ((y i + 8380417 - z i) % 8380417)) (mred (((y i + 8380417 - z i) % 8380417 + x i) % 8380417)) g
theorem mkv_bd (x y z : Nat → Int) (g : Int) (i : Nat) : 0 ≤ mkv x y z g i ∧ mkv x y z g i ≤ 1 := mkH_bd _ _ _
theorem one_bd (b : Bool) : (0 : Int) ≤ (if b then 1 else 0) ∧ (if b then (1 : Int) else 0) < 256 := by cases b <;> simp
theorem mk_one (x y z : Int) (g : Int) : (if (decHi ((mred y - mred z + mred x) % 8380417) g != decHi (((mred y - mred z + mred x) % 8380417 + -mred x) % 8380417) g) then (1 : Int) else 0) = mkH (mred ((y + 8380417 - z) % 8380417)) (mred (((y + 8380417 - z) % 8380417 + x) % 8380417)) g := by
  have e1 : (mred y - mred z + mred x) % 8380417 = mred (((y + 8380417 - z) % 8380417 + x) % 8380417) := by unfold mred; omega
  have e2 : (mred (((y + 8380417 - z) % 8380417 + x) % 8380417) + -mred x) % 8380417 = mred ((y + 8380417 - z) % 8380417) := by unfold mred; omega
  rw [e1, e2]
  unfold mkH
  by_cases h : decHi (mred ((y + 8380417 - z) % 8380417)) g = decHi (mred (((y + 8380417 - z) % 8380417 + x) % 8380417)) g
  · rw [if_pos h, ← h]; simp
  · rw [if_neg h, if_pos (bne_iff_ne.2 fun e => h e.symm)]

theorem lwOne (b : Bool) (w : World) :
    Calls Tryd.prog 11 #[.bool b] w fun e w' => e = .returned (.int .u8 (if b then 1 else 0)) ∧ w = w' := by
  cases b with
  | false =>
    go_enter Tryd.func11, Tryd.ntmps11
    go_wp2
    go_ret
    exact ⟨rfl, rfl⟩
  | true =>
    go_enter Tryd.func11, Tryd.ntmps11
    go_wp2
    go_ret
    exact ⟨rfl, rfl⟩
theorem spMakeHintS (s : Nat) (z r : Int) (w : World) (hs : s < 3) (z0 : -1099511627776 ≤ z) (z1 : z ≤ 1099511627776) (h0 : 0 ≤ r) (h1 : r < 8380417) :
    Calls Tryd.prog 15 #[.int .i64 z, .int .i64 r, .int .i64 (ss s 5)] w fun e w' => e = .returned (.bool (decHi r (ss s 5) != decHi ((r + z) % 8380417) (ss s 5))) ∧ w = w' := by
  have h3 : s = 0 ∨ s = 1 ∨ s = 2 := by omega
  rcases h3 with rfl | rfl | rfl
  · exact spMakeHint88 z r w z0 z1 h0 h1
  · exact spMakeHint32 z r w z0 z1 h0 h1
  · exact spMakeHint32 z r w z0 z1 h0 h1

set_option maxRecDepth 100000 in
set_option maxHeartbeats 1000000 in
theorem makeHintP (s : Nat) (x y z : Nat → Int) (w : World) (hs : s < 3) (hx : ∀ i, i < 256 → 0 ≤ x i ∧ x i < 8380417) (hy : ∀ i, i < 256 → 0 ≤ y i ∧ y i < 8380417) (hz : ∀ i, i < 256 → 0 ≤ z i ∧ z i < 8380417) :
    Calls Tryd.prog 34 #[.agg (arr .u32 256 x), .agg (arr .u32 256 y), .agg (arr .u32 256 z), .agg (arr .i64 8 (ps s))] w fun e w' => e = .returned (.tuple #[.agg (arr .u8 256 (mkv x y z (ss s 5))), .int .i64 (sumTo (mkv x y z (ss s 5)) 256)]) ∧ Below w.heap.size w w' := by
  have HX := Lib.hid hx; clear hx
  have HY := Lib.hid hy; clear hy
  have HZ := Lib.hid hz; clear hz
  have h3 : s = 0 ∨ s = 1 ∨ s = 2 := by omega
  clear hs
  rcases h3 with rfl | rfl | rfl
  · have hg := Blk.cellv ((Blk.new (g := w.heap.size + 1 + 1 + 1) (((w.alloc (.cells (arr .u32 256 x) 53)).alloc (.cells (arr .u32 256 y) 53)).alloc (.cells (arr .u32 256 z) 53)) .i64 8 (ps 0) 63 (by first | omega | (simp; done) | (simp; omega))).alloc (.cells (arr .u8 256 (fun _ => 0)) 32)) 4 88 (by omega) rfl
    go_enter Tryd.func34, Tryd.ntmps34
    go_wp2_with fail
    clear hg
    go_loopw [41, 9] (fun i c wr => ∃ (k : Nat) (t : Int), k ≤ 256 ∧ i = .int .i64 k ∧ c = .int .i64 t ∧ 0 ≤ t ∧ t ≤ k ∧ Hid (t = sumTo (mkv x y z 95232) k) ∧ Below w.heap.size w wr ∧ Blk wr (w.heap.size + 1 + 1 + 1 + 1) .u8 256 (fun j => if j < k then mkv x y z 95232 j else 0) 32 ∧ Blk wr (w.heap.size + 1 + 1) .u32 256 z 53 ∧ Blk wr (w.heap.size + 1) .u32 256 y 53 ∧ Blk wr w.heap.size .u32 256 x 53) (fun i _ _ => 256 - (intOf i).toNat)
    case atStart => exact ⟨0, 0, by omega, rfl, rfl, by omega, by omega, Lib.hid rfl, ((((((Below.refl w.heap.size w).alloc (by first | omega | (simp; done) | (simp; omega)) _).alloc (by first | omega | (simp; done) | (simp; omega)) _).alloc (by first | omega | (simp; done) | (simp; omega)) _).alloc (by first | omega | (simp; done) | (simp; omega)) _).alloc (by first | omega | (simp; done) | (simp; omega)) _), (Blk.new _ _ _ _ _ (by first | omega | (simp; done) | (simp; omega))).start _, (((Blk.new _ _ _ _ _ (by first | omega | (simp; done) | (simp; omega))).alloc _).alloc _), ((((Blk.new _ _ _ _ _ (by first | omega | (simp; done) | (simp; omega))).alloc _).alloc _).alloc _), (((((Blk.new _ _ _ _ _ (by first | omega | (simp; done) | (simp; omega))).alloc _).alloc _).alloc _).alloc _)⟩
    case round =>
      obtain ⟨k, t, hk, rfl, rfl, ht0, ht1, ht, hb, h4, h2, h1, h0⟩ := hrel
      by_cases hlt : k < 256
      · have hc4 := h4.cell hlt
        have hf := h4.frozen k
        have hc2 := h2.cell hlt
        have hc1 := h1.cell hlt
        have hc0 := h0.cell hlt
        obtain ⟨hx0, hx1⟩ := HX.out k hlt
        obtain ⟨hy0, hy1⟩ := HY.out k hlt
        obtain ⟨hz0, hz1⟩ := HZ.out k hlt
        obtain ⟨hv0, hv1⟩ := mkv_bd x y z 95232 k
        have hmk : ∀ w', Calls Tryd.prog 42 #[.int .u32 (x k), .int .u32 (y k), .int .u32 (z k)] w' fun e w'' => e = .returned (.int .u8 (mkv x y z 95232 k)) ∧ w' = w'' := fun w' => makeHint88 _ _ _ w' hx0 hx1 hy0 hy1 hz0 hz1
        have hmk := Lib.hid hmk
        go_wp2_with fail
        refine wp_region_drew_tail 12 (by kernel_rfl) (by kernel_rfl) ?_
        simp only [List.take_succ_cons, List.take_zero, List.drop_succ_cons, List.drop_zero]
        repeat (go_big_quiet_step ((first | (go_at_call 42; exact Calls.quiet_eq (hmk.out _)))))
        refine wpQuiet_nil ?_
        intro _ hw'
        obtain ⟨nq, hw''⟩ := hw'
        subst hw''
        go_wp2_with fail
        go_roundw
        case rel => exact ⟨k + 1, sumTo (mkv x y z 95232) (k + 1), by omega, by go_num, by rw [sumTo, ← ht.out] <;> go_num, by rw [sumTo, ← ht.out]; omega, by rw [sumTo, ← ht.out]; omega, Lib.hid rfl, (below_drewM hb _).setCell (by first | omega | (simp; done) | (simp; omega)) _, Blk.fill (f := fun j => mkv x y z 95232 j) (h4.drewN _), (h2.drewN _).other _ _ (by first | omega | (simp; done) | (simp; omega)), (h1.drewN _).other _ _ (by first | omega | (simp; done) | (simp; omega)), (h0.drewN _).other _ _ (by first | omega | (simp; done) | (simp; omega))⟩
        case measure => simp [intOf]; omega
      · obtain rfl : k = 256 := by omega
        have h4 := h4.full
        go_wp2_with (first | (with_reducible refine at_load 32 _ rfl ?_; refine wpList_load_arr Tryd.underlying32 iB rfl _ rfl _ rfl (h4) ?_) | (with_reducible refine at_store 32 _ _ rfl ?_; refine wpList_store_arr iB rfl _ _ rfl _ rfl rfl (h4) ?_))
        exact bodyPost_ret (v := .tuple #[.agg (arr .u8 256 (mkv x y z 95232)), .int .i64 (sumTo (mkv x y z 95232) 256)]) (results_arr_tmp Tryd.underlying32 iB rfl _ _ _ _ rfl (by rw [← ht.out]; rfl) (h4.row _ _)) rfl ⟨rfl, below_setRow hb (by first | omega | (simp; done) | (simp; omega)) _⟩
  · have hg := Blk.cellv ((Blk.new (g := w.heap.size + 1 + 1 + 1) (((w.alloc (.cells (arr .u32 256 x) 53)).alloc (.cells (arr .u32 256 y) 53)).alloc (.cells (arr .u32 256 z) 53)) .i64 8 (ps 1) 63 (by first | omega | (simp; done) | (simp; omega))).alloc (.cells (arr .u8 256 (fun _ => 0)) 32)) 4 32 (by omega) rfl
    go_enter Tryd.func34, Tryd.ntmps34
    go_wp2_with fail
    clear hg
    go_loopw [17, 9] (fun i c wr => ∃ (k : Nat) (t : Int), k ≤ 256 ∧ i = .int .i64 k ∧ c = .int .i64 t ∧ 0 ≤ t ∧ t ≤ k ∧ Hid (t = sumTo (mkv x y z 261888) k) ∧ Below w.heap.size w wr ∧ Blk wr (w.heap.size + 1 + 1 + 1 + 1) .u8 256 (fun j => if j < k then mkv x y z 261888 j else 0) 32 ∧ Blk wr (w.heap.size + 1 + 1) .u32 256 z 53 ∧ Blk wr (w.heap.size + 1) .u32 256 y 53 ∧ Blk wr w.heap.size .u32 256 x 53) (fun i _ _ => 256 - (intOf i).toNat)
    case atStart => exact ⟨0, 0, by omega, rfl, rfl, by omega, by omega, Lib.hid rfl, ((((((Below.refl w.heap.size w).alloc (by first | omega | (simp; done) | (simp; omega)) _).alloc (by first | omega | (simp; done) | (simp; omega)) _).alloc (by first | omega | (simp; done) | (simp; omega)) _).alloc (by first | omega | (simp; done) | (simp; omega)) _).alloc (by first | omega | (simp; done) | (simp; omega)) _), (Blk.new _ _ _ _ _ (by first | omega | (simp; done) | (simp; omega))).start _, (((Blk.new _ _ _ _ _ (by first | omega | (simp; done) | (simp; omega))).alloc _).alloc _), ((((Blk.new _ _ _ _ _ (by first | omega | (simp; done) | (simp; omega))).alloc _).alloc _).alloc _), (((((Blk.new _ _ _ _ _ (by first | omega | (simp; done) | (simp; omega))).alloc _).alloc _).alloc _).alloc _)⟩
    case round =>
      obtain ⟨k, t, hk, rfl, rfl, ht0, ht1, ht, hb, h4, h2, h1, h0⟩ := hrel
      by_cases hlt : k < 256
      · have hc4 := h4.cell hlt
        have hf := h4.frozen k
        have hc2 := h2.cell hlt
        have hc1 := h1.cell hlt
        have hc0 := h0.cell hlt
        obtain ⟨hx0, hx1⟩ := HX.out k hlt
        obtain ⟨hy0, hy1⟩ := HY.out k hlt
        obtain ⟨hz0, hz1⟩ := HZ.out k hlt
        obtain ⟨hv0, hv1⟩ := mkv_bd x y z 261888 k
        have hmk : ∀ w', Calls Tryd.prog 41 #[.int .u32 (x k), .int .u32 (y k), .int .u32 (z k)] w' fun e w'' => e = .returned (.int .u8 (mkv x y z 261888 k)) ∧ w' = w'' := fun w' => makeHint32 _ _ _ w' hx0 hx1 hy0 hy1 hz0 hz1
        have hmk := Lib.hid hmk
        go_wp2_with fail
        refine wp_region_drew_tail 12 (by kernel_rfl) (by kernel_rfl) ?_
        simp only [List.take_succ_cons, List.take_zero, List.drop_succ_cons, List.drop_zero]
        repeat (go_big_quiet_step ((first | (go_at_call 41; exact Calls.quiet_eq (hmk.out _)))))
        refine wpQuiet_nil ?_
        intro _ hw'
        obtain ⟨nq, hw''⟩ := hw'
        subst hw''
        go_wp2_with fail
        go_roundw
        case rel => exact ⟨k + 1, sumTo (mkv x y z 261888) (k + 1), by omega, by go_num, by rw [sumTo, ← ht.out] <;> go_num, by rw [sumTo, ← ht.out]; omega, by rw [sumTo, ← ht.out]; omega, Lib.hid rfl, (below_drewM hb _).setCell (by first | omega | (simp; done) | (simp; omega)) _, Blk.fill (f := fun j => mkv x y z 261888 j) (h4.drewN _), (h2.drewN _).other _ _ (by first | omega | (simp; done) | (simp; omega)), (h1.drewN _).other _ _ (by first | omega | (simp; done) | (simp; omega)), (h0.drewN _).other _ _ (by first | omega | (simp; done) | (simp; omega))⟩
        case measure => simp [intOf]; omega
      · obtain rfl : k = 256 := by omega
        have h4 := h4.full
        go_wp2_with (first | (with_reducible refine at_load 32 _ rfl ?_; refine wpList_load_arr Tryd.underlying32 iB rfl _ rfl _ rfl (h4) ?_) | (with_reducible refine at_store 32 _ _ rfl ?_; refine wpList_store_arr iB rfl _ _ rfl _ rfl rfl (h4) ?_))
        exact bodyPost_ret (v := .tuple #[.agg (arr .u8 256 (mkv x y z 261888)), .int .i64 (sumTo (mkv x y z 261888) 256)]) (results_arr_tmp Tryd.underlying32 iB rfl _ _ _ _ rfl (by rw [← ht.out]; rfl) (h4.row _ _)) rfl ⟨rfl, below_setRow hb (by first | omega | (simp; done) | (simp; omega)) _⟩
  · have hg := Blk.cellv ((Blk.new (g := w.heap.size + 1 + 1 + 1) (((w.alloc (.cells (arr .u32 256 x) 53)).alloc (.cells (arr .u32 256 y) 53)).alloc (.cells (arr .u32 256 z) 53)) .i64 8 (ps 2) 63 (by first | omega | (simp; done) | (simp; omega))).alloc (.cells (arr .u8 256 (fun _ => 0)) 32)) 4 32 (by omega) rfl
    go_enter Tryd.func34, Tryd.ntmps34
    go_wp2_with fail
    clear hg
    go_loopw [17, 9] (fun i c wr => ∃ (k : Nat) (t : Int), k ≤ 256 ∧ i = .int .i64 k ∧ c = .int .i64 t ∧ 0 ≤ t ∧ t ≤ k ∧ Hid (t = sumTo (mkv x y z 261888) k) ∧ Below w.heap.size w wr ∧ Blk wr (w.heap.size + 1 + 1 + 1 + 1) .u8 256 (fun j => if j < k then mkv x y z 261888 j else 0) 32 ∧ Blk wr (w.heap.size + 1 + 1) .u32 256 z 53 ∧ Blk wr (w.heap.size + 1) .u32 256 y 53 ∧ Blk wr w.heap.size .u32 256 x 53) (fun i _ _ => 256 - (intOf i).toNat)
    case atStart => exact ⟨0, 0, by omega, rfl, rfl, by omega, by omega, Lib.hid rfl, ((((((Below.refl w.heap.size w).alloc (by first | omega | (simp; done) | (simp; omega)) _).alloc (by first | omega | (simp; done) | (simp; omega)) _).alloc (by first | omega | (simp; done) | (simp; omega)) _).alloc (by first | omega | (simp; done) | (simp; omega)) _).alloc (by first | omega | (simp; done) | (simp; omega)) _), (Blk.new _ _ _ _ _ (by first | omega | (simp; done) | (simp; omega))).start _, (((Blk.new _ _ _ _ _ (by first | omega | (simp; done) | (simp; omega))).alloc _).alloc _), ((((Blk.new _ _ _ _ _ (by first | omega | (simp; done) | (simp; omega))).alloc _).alloc _).alloc _), (((((Blk.new _ _ _ _ _ (by first | omega | (simp; done) | (simp; omega))).alloc _).alloc _).alloc _).alloc _)⟩
    case round =>
      obtain ⟨k, t, hk, rfl, rfl, ht0, ht1, ht, hb, h4, h2, h1, h0⟩ := hrel
      by_cases hlt : k < 256
      · have hc4 := h4.cell hlt
        have hf := h4.frozen k
        have hc2 := h2.cell hlt
        have hc1 := h1.cell hlt
        have hc0 := h0.cell hlt
        obtain ⟨hx0, hx1⟩ := HX.out k hlt
        obtain ⟨hy0, hy1⟩ := HY.out k hlt
        obtain ⟨hz0, hz1⟩ := HZ.out k hlt
        obtain ⟨hv0, hv1⟩ := mkv_bd x y z 261888 k
        have hmk : ∀ w', Calls Tryd.prog 41 #[.int .u32 (x k), .int .u32 (y k), .int .u32 (z k)] w' fun e w'' => e = .returned (.int .u8 (mkv x y z 261888 k)) ∧ w' = w'' := fun w' => makeHint32 _ _ _ w' hx0 hx1 hy0 hy1 hz0 hz1
        have hmk := Lib.hid hmk
        go_wp2_with fail
        refine wp_region_drew_tail 12 (by kernel_rfl) (by kernel_rfl) ?_
        simp only [List.take_succ_cons, List.take_zero, List.drop_succ_cons, List.drop_zero]
        repeat (go_big_quiet_step ((first | (go_at_call 41; exact Calls.quiet_eq (hmk.out _)))))
        refine wpQuiet_nil ?_
        intro _ hw'
        obtain ⟨nq, hw''⟩ := hw'
        subst hw''
        go_wp2_with fail
        go_roundw
        case rel => exact ⟨k + 1, sumTo (mkv x y z 261888) (k + 1), by omega, by go_num, by rw [sumTo, ← ht.out] <;> go_num, by rw [sumTo, ← ht.out]; omega, by rw [sumTo, ← ht.out]; omega, Lib.hid rfl, (below_drewM hb _).setCell (by first | omega | (simp; done) | (simp; omega)) _, Blk.fill (f := fun j => mkv x y z 261888 j) (h4.drewN _), (h2.drewN _).other _ _ (by first | omega | (simp; done) | (simp; omega)), (h1.drewN _).other _ _ (by first | omega | (simp; done) | (simp; omega)), (h0.drewN _).other _ _ (by first | omega | (simp; done) | (simp; omega))⟩
        case measure => simp [intOf]; omega
      · obtain rfl : k = 256 := by omega
        have h4 := h4.full
        go_wp2_with (first | (with_reducible refine at_load 32 _ rfl ?_; refine wpList_load_arr Tryd.underlying32 iB rfl _ rfl _ rfl (h4) ?_) | (with_reducible refine at_store 32 _ _ rfl ?_; refine wpList_store_arr iB rfl _ _ rfl _ rfl rfl (h4) ?_))
        exact bodyPost_ret (v := .tuple #[.agg (arr .u8 256 (mkv x y z 261888)), .int .i64 (sumTo (mkv x y z 261888) 256)]) (results_arr_tmp Tryd.underlying32 iB rfl _ _ _ _ rfl (by rw [← ht.out]; rfl) (h4.row _ _)) rfl ⟨rfl, below_setRow hb (by first | omega | (simp; done) | (simp; omega)) _⟩

set_option maxRecDepth 100000 in
set_option maxHeartbeats 1000000 in
theorem zzMakeHint (s : Nat) (x y z : Nat → Int) (w : World) (hs : s < 3) (hp : Par w) (hx : ∀ i, i < 256 → 0 ≤ x i ∧ x i < 8380417) (hy : ∀ i, i < 256 → 0 ≤ y i ∧ y i < 8380417) (hz : ∀ i, i < 256 → 0 ≤ z i ∧ z i < 8380417) :
    Calls Tryd.prog 27 #[.int .i64 (nm s), .agg (arr .u32 256 x), .agg (arr .u32 256 y), .agg (arr .u32 256 z)] w fun e w' => e = .returned (.tuple #[.agg (arr .u8 256 (mkv x y z (ss s 5))), .int .i64 (sumTo (mkv x y z (ss s 5)) 256)]) ∧ Below w.heap.size w w' := by
  have HX := Lib.hid hx; clear hx
  have HY := Lib.hid hy; clear hy
  have HZ := Lib.hid hz; clear hz
  go_enter Tryd.func27, Tryd.ntmps27
  go_wp2_with fail
  refine wp_region_below_tail 8 (by kernel_rfl) (by kernel_rfl) ?_
  simp only [List.take_succ_cons, List.take_zero, List.drop_succ_cons, List.drop_zero]
  (refine BigFrame.wpQuiet_want rfl (fun K hK => ?_); refine quiet_load_arr Tryd.underlying53 iR _ rfl _ rfl (fun w' hw' => Blk.below (((((Blk.new _ _ _ _ _ (by first | omega | (simp; done) | (simp; omega))).alloc _).alloc _).alloc _)) hw') (hK _ ?_); clear hK K; simp only [Act.put, List.setIfInBounds_toArray, List.set_cons_zero, List.set_cons_succ])
  (refine BigFrame.wpQuiet_want rfl (fun K hK => ?_); refine quiet_load_arr Tryd.underlying53 iR _ rfl _ rfl (fun w' hw' => Blk.below ((((Blk.new _ _ _ _ _ (by first | omega | (simp; done) | (simp; omega))).alloc _).alloc _)) hw') (hK _ ?_); clear hK K; simp only [Act.put, List.setIfInBounds_toArray, List.set_cons_zero, List.set_cons_succ])
  (refine BigFrame.wpQuiet_want rfl (fun K hK => ?_); refine quiet_load_arr Tryd.underlying53 iR _ rfl _ rfl (fun w' hw' => Blk.below (((Blk.new _ _ _ _ _ (by first | omega | (simp; done) | (simp; omega))).alloc _)) hw') (hK _ ?_); clear hK K; simp only [Act.put, List.setIfInBounds_toArray, List.set_cons_zero, List.set_cons_succ])
  (first | go_big_quiet_skip | (go_big_quiet_want; go_big_quiet_op; first | go_big_quiet_on | (apply Exists.intro; refine ⟨fun _ _ => rfl, ?_⟩; go_big_quiet_on)))
  go_big_quiet_step ((intro hw'; go_at_call 32; exact Calls.in_below hw' (zzSet s _ hs (((((hp.alloc _).alloc _).alloc _).alloc _).below hw'))))
  go_big_quiet_step ((intro hw'; go_at_call 34; exact Calls.in_below hw' (makeHintP s x y z _ hs HX.out HY.out HZ.out)))
  (first | go_big_quiet_skip | (go_big_quiet_want; go_big_quiet_op; first | go_big_quiet_on | (apply Exists.intro; refine ⟨fun _ _ => rfl, ?_⟩; go_big_quiet_on)))
  (first | go_big_quiet_skip | (go_big_quiet_want; go_big_quiet_op; first | go_big_quiet_on | (apply Exists.intro; refine ⟨fun _ _ => rfl, ?_⟩; go_big_quiet_on)))
  refine wpQuiet_nil ?_
  intro w2 hb2
  have hr := Blk.below (Blk.new (g := w.heap.size + 1 + 1 + 1) _ .u8 256 (fun _ => 0) 32 (by first | omega | (simp; done) | (simp; omega))) hb2
  have hB := belowChain (((((Below.refl w.heap.size w).alloc (by first | omega | (simp; done) | (simp; omega)) _).alloc (by first | omega | (simp; done) | (simp; omega)) _).alloc (by first | omega | (simp; done) | (simp; omega)) _).alloc (by first | omega | (simp; done) | (simp; omega)) _) hb2 (by first | omega | (simp; done) | (simp; omega))
  go_wp2_with (first | (with_reducible refine at_store 32 _ _ rfl ?_; refine wpList_store_arr iB rfl _ _ rfl _ rfl rfl (hr) ?_))
  exact bodyPost_ret (v := (.tuple #[.agg (arr .u8 256 (mkv x y z (ss s 5))), .int .i64 (sumTo (mkv x y z (ss s 5)) 256)])) (results_arr_tmp Tryd.underlying32 iB rfl _ _ _ _ rfl rfl (hr.row _ _)) rfl ⟨rfl, below_setRow hB (by first | omega | (simp; done) | (simp; omega)) _⟩

set_option maxRecDepth 100000 in
set_option maxHeartbeats 1000000 in
theorem implMakeHint (s : Nat) (x y z : Nat → Int) (w : World) (hs : s < 3) (hp : Par w) (hx : ∀ i, i < 256 → 0 ≤ x i ∧ x i < 8380417) (hy : ∀ i, i < 256 → 0 ≤ y i ∧ y i < 8380417) (hz : ∀ i, i < 256 → 0 ≤ z i ∧ z i < 8380417) :
    Calls Tryd.prog 14 #[.int .i64 (nm s), .agg (arr .u32 256 x), .agg (arr .u32 256 y), .agg (arr .u32 256 z)] w fun e w' => e = .returned (.tuple #[.agg (arr .u8 256 (mkv x y z (ss s 5))), .int .i64 (sumTo (mkv x y z (ss s 5)) 256)]) ∧ Below w.heap.size w w' := by
  have HX := Lib.hid hx; clear hx
  have HY := Lib.hid hy; clear hy
  have HZ := Lib.hid hz; clear hz
  go_enter Tryd.func14, Tryd.ntmps14
  go_wp2_with fail
  refine wp_region_below_tail 10 (by kernel_rfl) (by kernel_rfl) ?_
  simp only [List.take_succ_cons, List.take_zero, List.drop_succ_cons, List.drop_zero]
  (first | go_big_quiet_skip | (go_big_quiet_want; go_big_quiet_op; first | go_big_quiet_on | (apply Exists.intro; refine ⟨fun _ _ => rfl, ?_⟩; go_big_quiet_on)))
  (refine BigFrame.wpQuiet_want rfl (fun K hK => ?_); refine quiet_load_arr Tryd.underlying23 iU _ rfl _ rfl (fun w' hw' => Blk.below (((((Blk.new _ _ _ _ _ (by first | omega | (simp; done) | (simp; omega))).alloc _).alloc _).alloc _)) hw') (hK _ ?_); clear hK K; simp only [Act.put, List.setIfInBounds_toArray, List.set_cons_zero, List.set_cons_succ])
  go_big_quiet_step ((intro hw'; go_at_call 24; exact Calls.in_below hw' (implRing x _)))
  (refine BigFrame.wpQuiet_want rfl (fun K hK => ?_); refine quiet_load_arr Tryd.underlying23 iU _ rfl _ rfl (fun w' hw' => Blk.below ((((Blk.new _ _ _ _ _ (by first | omega | (simp; done) | (simp; omega))).alloc _).alloc _)) hw') (hK _ ?_); clear hK K; simp only [Act.put, List.setIfInBounds_toArray, List.set_cons_zero, List.set_cons_succ])
  go_big_quiet_step ((intro hw'; go_at_call 24; exact Calls.in_below hw' (implRing y _)))
  (refine BigFrame.wpQuiet_want rfl (fun K hK => ?_); refine quiet_load_arr Tryd.underlying23 iU _ rfl _ rfl (fun w' hw' => Blk.below (((Blk.new _ _ _ _ _ (by first | omega | (simp; done) | (simp; omega))).alloc _)) hw') (hK _ ?_); clear hK K; simp only [Act.put, List.setIfInBounds_toArray, List.set_cons_zero, List.set_cons_succ])
  go_big_quiet_step ((intro hw'; go_at_call 24; exact Calls.in_below hw' (implRing z _)))
  go_big_quiet_step ((intro hw'; go_at_call 27; exact Calls.in_below hw' (zzMakeHint s x y z _ hs (((((hp.alloc _).alloc _).alloc _).alloc _).below hw') HX.out HY.out HZ.out)))
  (first | go_big_quiet_skip | (go_big_quiet_want; go_big_quiet_op; first | go_big_quiet_on | (apply Exists.intro; refine ⟨fun _ _ => rfl, ?_⟩; go_big_quiet_on)))
  (first | go_big_quiet_skip | (go_big_quiet_want; go_big_quiet_op; first | go_big_quiet_on | (apply Exists.intro; refine ⟨fun _ _ => rfl, ?_⟩; go_big_quiet_on)))
  refine wpQuiet_nil ?_
  intro w2 hb2
  have hr := Blk.below (Blk.new (g := w.heap.size + 1 + 1 + 1) _ .u8 256 (fun _ => 0) 32 (by first | omega | (simp; done) | (simp; omega))) hb2
  have hB := belowChain (((((Below.refl w.heap.size w).alloc (by first | omega | (simp; done) | (simp; omega)) _).alloc (by first | omega | (simp; done) | (simp; omega)) _).alloc (by first | omega | (simp; done) | (simp; omega)) _).alloc (by first | omega | (simp; done) | (simp; omega)) _) hb2 (by first | omega | (simp; done) | (simp; omega))
  go_wp2_with (first | (with_reducible refine at_store 32 _ _ rfl ?_; refine wpList_store_arr iB rfl _ _ rfl _ rfl rfl (hr) ?_))
  exact bodyPost_ret (v := (.tuple #[.agg (arr .u8 256 (mkv x y z (ss s 5))), .int .i64 (sumTo (mkv x y z (ss s 5)) 256)])) (results_arr_tmp Tryd.underlying32 iB rfl _ _ _ _ rfl rfl (hr.row _ _)) rfl ⟨rfl, below_setRow hB (by first | omega | (simp; done) | (simp; omega)) _⟩

set_option maxRecDepth 100000 in
set_option maxHeartbeats 1000000 in
theorem walkFnMakeHint (n : Int) (x y z : Nat → Int) (w : World) (hp : Par w) (n0 : 0 ≤ n) (n1 : n < 256) (hx : ∀ i, i < 256 → 0 ≤ x i ∧ x i < 4294967296) (hy : ∀ i, i < 256 → 0 ≤ y i ∧ y i < 4294967296) (hz : ∀ i, i < 256 → 0 ≤ z i ∧ z i < 4294967296) :
    Calls Tryd.prog 5 #[.int .u8 n, .agg (arr .u32 256 x), .agg (arr .u32 256 y), .agg (arr .u32 256 z)] w fun e w' => e = .returned (.bool true) ∧ Below w.heap.size w w' := by
  have Hx := Lib.hid hx; clear hx
  have Hy := Lib.hid hy; clear hy
  have Hz := Lib.hid hz; clear hz
  obtain ⟨s, hs⟩ : ∃ s : Nat, (s : Int) = n % 3 := ⟨(n % 3).toNat, by omega⟩
  have hs3 : s < 3 := by omega
  go_enter Tryd.func5, Tryd.ntmps5
  go_wp2_with fail
  refine (lwSet _ s _ n0 n1 hs).mono ?_
  rintro e w1 ⟨rfl, hb1⟩
  clear hs
  have fx := Blk.below (((Blk.new (g := w.heap.size) w .u32 256 x 23 (by first | omega | (simp; done) | (simp; omega))).alloc (.cells (arr .u32 256 y) 23)).alloc (.cells (arr .u32 256 z) 23)) hb1
  have fy := Blk.below ((Blk.new (g := w.heap.size + 1) (w.alloc (.cells (arr .u32 256 x) 23)) .u32 256 y 23 (by first | omega | (simp; done) | (simp; omega))).alloc (.cells (arr .u32 256 z) 23)) hb1
  have fz := Blk.below (Blk.new (g := w.heap.size + 1 + 1) ((w.alloc (.cells (arr .u32 256 x) 23)).alloc (.cells (arr .u32 256 y) 23)) .u32 256 z 23 (by first | omega | (simp; done) | (simp; omega))) hb1
  have hB1 := belowChain ((((Below.refl w.heap.size w).alloc (by first | omega | (simp; done) | (simp; omega)) (.cells (arr .u32 256 x) 23)).alloc (by first | omega | (simp; done) | (simp; omega)) (.cells (arr .u32 256 y) 23)).alloc (by first | omega | (simp; done) | (simp; omega)) (.cells (arr .u32 256 z) 23)) hb1 (by first | omega | (simp; done) | (simp; omega))
  have hlx := fx.lt
  have hly := fy.lt
  have hlz := fz.lt
  clear hb1
  go_wp2_with (first | (with_reducible refine at_store 25 _ _ rfl ?_; refine wpList_store_arr iSet rfl _ _ rfl _ rfl rfl (Blk.zeros8 _ _ rfl) ?_) | (with_reducible refine at_load 23 _ rfl ?_; refine wpList_load_arr Tryd.underlying23 iU rfl _ rfl _ rfl ((fx.alloc _).rowOther _ _ (by first | omega | (simp; done) | (simp; omega))) ?_))
  refine (lwPlain x _ Hx.out).mono ?_
  rintro e w2 ⟨rfl, hb2⟩
  have fx := Blk.below ((fx.alloc (.cells #[.int .i64 0, .int .i64 0, .int .i64 0, .int .i64 0, .int .i64 0, .int .i64 0, .int .i64 0, .int .i64 0] 25)).rowOther w1.heap.size (arr .i64 8 (ss s)) (by first | omega | (simp; done) | (simp; omega))) hb2
  have fy := Blk.below ((fy.alloc (.cells #[.int .i64 0, .int .i64 0, .int .i64 0, .int .i64 0, .int .i64 0, .int .i64 0, .int .i64 0, .int .i64 0] 25)).rowOther w1.heap.size (arr .i64 8 (ss s)) (by first | omega | (simp; done) | (simp; omega))) hb2
  have fz := Blk.below ((fz.alloc (.cells #[.int .i64 0, .int .i64 0, .int .i64 0, .int .i64 0, .int .i64 0, .int .i64 0, .int .i64 0, .int .i64 0] 25)).rowOther w1.heap.size (arr .i64 8 (ss s)) (by first | omega | (simp; done) | (simp; omega))) hb2
  have fs := Blk.below ((Blk.zeros8 w1 25 rfl).row .i64 (ss s)) hb2
  have hB2 := belowChain (below_setRow (hB1.alloc (by first | omega | (simp; done) | (simp; omega)) (.cells #[.int .i64 0, .int .i64 0, .int .i64 0, .int .i64 0, .int .i64 0, .int .i64 0, .int .i64 0, .int .i64 0] 25)) (g := w1.heap.size) (by first | omega | (simp; done) | (simp; omega)) (arr .i64 8 (ss s))) hb2 (by first | omega | (simp; done) | (simp; omega))
  have hls := fs.lt
  clear hb2 hB1

  have fx := ((fx.alloc (.cells (arr .i64 256 (fun _ => 0)) 29)).rowOther w2.heap.size (arr .i64 256 (fun i => mred (x i))) (by first | omega | (simp; done) | (simp; omega)))
  have fy := ((fy.alloc (.cells (arr .i64 256 (fun _ => 0)) 29)).rowOther w2.heap.size (arr .i64 256 (fun i => mred (x i))) (by first | omega | (simp; done) | (simp; omega)))
  have fz := ((fz.alloc (.cells (arr .i64 256 (fun _ => 0)) 29)).rowOther w2.heap.size (arr .i64 256 (fun i => mred (x i))) (by first | omega | (simp; done) | (simp; omega)))
  have fs := ((fs.alloc (.cells (arr .i64 256 (fun _ => 0)) 29)).rowOther w2.heap.size (arr .i64 256 (fun i => mred (x i))) (by first | omega | (simp; done) | (simp; omega)))
  have fa := (Blk.new w2 .i64 256 (fun _ => 0) 29 rfl).row .i64 (fun i => mred (x i))
  have hB3 := below_setRow (hB2.alloc (by first | omega | (simp; done) | (simp; omega)) (.cells (arr .i64 256 (fun _ => 0)) 29)) (g := w2.heap.size) (by first | omega | (simp; done) | (simp; omega)) (arr .i64 256 (fun i => mred (x i)))
  clear hB2
  go_wp2_with (first | (with_reducible refine at_store 29 _ _ rfl ?_; refine wpList_store_arr iP rfl _ _ rfl _ rfl rfl (Blk.new _ _ _ _ _ rfl) ?_) | (with_reducible refine at_load 23 _ rfl ?_; refine wpList_load_arr Tryd.underlying23 iU rfl _ rfl _ rfl (fy) ?_))
  refine (lwPlain y _ Hy.out).mono ?_
  rintro e w3 ⟨rfl, hb3⟩
  have fx := Blk.below fx hb3
  have fy := Blk.below fy hb3
  have fz := Blk.below fz hb3
  have fs := Blk.below fs hb3
  have fa := Blk.below fa hb3
  have hB3 := belowChain hB3 hb3 hB3.size
  have hla := fa.lt
  clear hb3
  have hlx := fx.lt
  have hls := fs.lt
  have hly := fy.lt
  have hlz := fz.lt
  have fx := ((fx.alloc (.cells (arr .i64 256 (fun _ => 0)) 29)).rowOther w3.heap.size (arr .i64 256 (fun i => mred (y i))) (by first | omega | (simp; done) | (simp; omega)))
  have fy := ((fy.alloc (.cells (arr .i64 256 (fun _ => 0)) 29)).rowOther w3.heap.size (arr .i64 256 (fun i => mred (y i))) (by first | omega | (simp; done) | (simp; omega)))
  have fz := ((fz.alloc (.cells (arr .i64 256 (fun _ => 0)) 29)).rowOther w3.heap.size (arr .i64 256 (fun i => mred (y i))) (by first | omega | (simp; done) | (simp; omega)))
  have fs := ((fs.alloc (.cells (arr .i64 256 (fun _ => 0)) 29)).rowOther w3.heap.size (arr .i64 256 (fun i => mred (y i))) (by first | omega | (simp; done) | (simp; omega)))
  have fa := ((fa.alloc (.cells (arr .i64 256 (fun _ => 0)) 29)).rowOther w3.heap.size (arr .i64 256 (fun i => mred (y i))) (by first | omega | (simp; done) | (simp; omega)))
  have fb := (Blk.new w3 .i64 256 (fun _ => 0) 29 rfl).row .i64 (fun i => mred (y i))
  have hB4 := below_setRow (hB3.alloc (by first | omega | (simp; done) | (simp; omega)) (.cells (arr .i64 256 (fun _ => 0)) 29)) (g := w3.heap.size) (by first | omega | (simp; done) | (simp; omega)) (arr .i64 256 (fun i => mred (y i)))
  clear hB3
  go_wp2_with (first | (with_reducible refine at_store 29 _ _ rfl ?_; refine wpList_store_arr iP rfl _ _ rfl _ rfl rfl (Blk.new _ _ _ _ _ rfl) ?_) | (with_reducible refine at_load 23 _ rfl ?_; refine wpList_load_arr Tryd.underlying23 iU rfl _ rfl _ rfl (fz) ?_))
  refine (lwPlain z _ Hz.out).mono ?_
  rintro e w4 ⟨rfl, hb4⟩
  have fx := Blk.below fx hb4
  have fy := Blk.below fy hb4
  have fz := Blk.below fz hb4
  have fs := Blk.below fs hb4
  have fa := Blk.below fa hb4
  have fb := Blk.below fb hb4
  have hB4 := belowChain hB4 hb4 hB4.size
  have hla := fa.lt
  have hlb := fb.lt
  clear hb4
  have hlx := fx.lt
  have hls := fs.lt
  have hly := fy.lt
  have hlz := fz.lt
  have fx := ((fx.alloc (.cells (arr .i64 256 (fun _ => 0)) 29)).rowOther w4.heap.size (arr .i64 256 (fun i => mred (z i))) (by first | omega | (simp; done) | (simp; omega)))
  have fy := ((fy.alloc (.cells (arr .i64 256 (fun _ => 0)) 29)).rowOther w4.heap.size (arr .i64 256 (fun i => mred (z i))) (by first | omega | (simp; done) | (simp; omega)))
  have fz := ((fz.alloc (.cells (arr .i64 256 (fun _ => 0)) 29)).rowOther w4.heap.size (arr .i64 256 (fun i => mred (z i))) (by first | omega | (simp; done) | (simp; omega)))
  have fs := ((fs.alloc (.cells (arr .i64 256 (fun _ => 0)) 29)).rowOther w4.heap.size (arr .i64 256 (fun i => mred (z i))) (by first | omega | (simp; done) | (simp; omega)))
  have fa := ((fa.alloc (.cells (arr .i64 256 (fun _ => 0)) 29)).rowOther w4.heap.size (arr .i64 256 (fun i => mred (z i))) (by first | omega | (simp; done) | (simp; omega)))
  have fb := ((fb.alloc (.cells (arr .i64 256 (fun _ => 0)) 29)).rowOther w4.heap.size (arr .i64 256 (fun i => mred (z i))) (by first | omega | (simp; done) | (simp; omega)))
  have fc := (Blk.new w4 .i64 256 (fun _ => 0) 29 rfl).row .i64 (fun i => mred (z i))
  have hB5 := below_setRow (hB4.alloc (by first | omega | (simp; done) | (simp; omega)) (.cells (arr .i64 256 (fun _ => 0)) 29)) (g := w4.heap.size) (by first | omega | (simp; done) | (simp; omega)) (arr .i64 256 (fun i => mred (z i)))
  clear hB4
  cases hrx : redB x with
  | false =>
    go_wp2_with (first | (with_reducible refine at_store 29 _ _ rfl ?_; refine wpList_store_arr iP rfl _ _ rfl _ rfl rfl (Blk.new _ _ _ _ _ rfl) ?_))
    go_ret
    exact ⟨rfl, hB5⟩
  | true =>
  cases hry : redB y with
  | false =>
    go_wp2_with (first | (with_reducible refine at_store 29 _ _ rfl ?_; refine wpList_store_arr iP rfl _ _ rfl _ rfl rfl (Blk.new _ _ _ _ _ rfl) ?_))
    go_ret
    exact ⟨rfl, hB5⟩
  | true =>
  cases hrz : redB z with
  | false =>
    go_wp2_with (first | (with_reducible refine at_store 29 _ _ rfl ?_; refine wpList_store_arr iP rfl _ _ rfl _ rfl rfl (Blk.new _ _ _ _ _ rfl) ?_))
    go_ret
    exact ⟨rfl, hB5⟩
  | true =>
    have QX := Lib.hid (fun i (hi : i < 256) => And.intro (Hx.out i hi).1 (redB_true hrx i hi))
    have QY := Lib.hid (fun i (hi : i < 256) => And.intro (Hy.out i hi).1 (redB_true hry i hi))
    have QZ := Lib.hid (fun i (hi : i < 256) => And.intro (Hz.out i hi).1 (redB_true hrz i hi))
    clear hrx hry hrz
    go_wp2_with (first | (with_reducible refine at_store 29 _ _ rfl ?_; refine wpList_store_arr iP rfl _ _ rfl _ rfl rfl (Blk.new _ _ _ _ _ rfl) ?_) | (with_reducible refine at_loadx 23 5 rfl ?_; refine wpList_load_arr Tryd.underlying23 iU rfl _ rfl _ rfl (fx) ?_) | (with_reducible refine at_loadx 23 6 rfl ?_; refine wpList_load_arr Tryd.underlying23 iU rfl _ rfl _ rfl (fy) ?_) | (with_reducible refine at_loadx 23 7 rfl ?_; refine wpList_load_arr Tryd.underlying23 iU rfl _ rfl _ rfl (fz) ?_))
    refine (implMakeHint s x y z _ hs3 (hp.below hB5) QX.out QY.out QZ.out).mono ?_
    rintro e w5 ⟨rfl, hb5⟩
    have fs := Blk.below fs hb5
    have fa := Blk.below fa hb5
    have fb := Blk.below fb hb5
    have fc := Blk.below fc hb5
    have hB6 := belowChain hB5 hb5 hB5.size
    have hla := fa.lt
    have hlb := fb.lt
    have hlc := fc.lt
    have hls := fs.lt
    clear hb5 hB5 fx fy fz
    go_wp2_with (first | (with_reducible refine at_store 32 _ _ rfl ?_; refine wpList_store_arr iB rfl _ _ rfl _ rfl rfl (Blk.new _ _ _ _ _ rfl) ?_))
    obtain ⟨sg, hsg⟩ : ∃ sg : Int, sg = sumTo (mkv x y z (ss s 5)) 256 := ⟨_, rfl⟩
    rw [← hsg]
    go_loopw [19, 18] (fun i c wr => ∃ (k : Nat) (t : Int), k ≤ 256 ∧ i = .int .i64 k ∧ c = .int .i64 t ∧ -256 ≤ t ∧ t ≤ 256 ∧ Hid (t + sumTo (mkv x y z (ss s 5)) k = sg) ∧ Below w.heap.size w wr ∧ Blk wr w5.heap.size .u8 256 (mkv x y z (ss s 5)) 32 ∧ Blk wr w4.heap.size .i64 256 (fun i => mred (z i)) 29 ∧ Blk wr w3.heap.size .i64 256 (fun i => mred (y i)) 29 ∧ Blk wr w2.heap.size .i64 256 (fun i => mred (x i)) 29 ∧ Blk wr w1.heap.size .i64 8 (ss s) 25) (fun i _ _ => 256 - (intOf i).toNat)
    case atStart =>
      have := sumTo_bd (mkv x y z (ss s 5)) 256 (fun i => mkv_bd x y z _ i)
      exact ⟨0, sg, by omega, rfl, rfl, by omega, by omega, Lib.hid (by simp [sumTo]), below_setRow (hB6.alloc (by first | omega | (simp; done) | (simp; omega)) _) (by first | omega | (simp; done) | (simp; omega)) _, (Blk.new _ _ _ _ _ rfl).row _ _, (fc.alloc _).rowOther _ _ (by first | omega | (simp; done) | (simp; omega)), (fb.alloc _).rowOther _ _ (by first | omega | (simp; done) | (simp; omega)), (fa.alloc _).rowOther _ _ (by first | omega | (simp; done) | (simp; omega)), (fs.alloc _).rowOther _ _ (by first | omega | (simp; done) | (simp; omega))⟩
    case round =>
      obtain ⟨k, t, hk, rfl, rfl, ht0, ht1, ht, hb, h5, h4, h3, h2, h1⟩ := hrel
      by_cases hlt : k < 256
      · have hc5 := h5.cell hlt
        have hc4 := h4.cell hlt
        have hc3 := h3.cell hlt
        have hc2 := h2.cell hlt
        have hc1 := h1.cellv 5 _ (by omega) rfl
        have hx0 := mred_lo (x k)
        have hx1 := mred_hi (x k)
        have hy0 := mred_lo (y k)
        have hy1 := mred_hi (y k)
        have hz0 := mred_lo (z k)
        have hz1 := mred_hi (z k)
        obtain ⟨hv0, hv1⟩ := mkv_bd x y z (ss s 5) k
        have ho := mk_one (x k) (y k) (z k) (ss s 5)
        have ho : _ = mkv x y z (ss s 5) k := ho
        have hMH : ∀ w', Calls Tryd.prog 15 #[.int .i64 (-mred (x k)), .int .i64 ((mred (y k) - mred (z k) + mred (x k)) % 8380417), .int .i64 (ss s 5)] w' fun e w'' => e = .returned (.bool (decHi ((mred (y k) - mred (z k) + mred (x k)) % 8380417) (ss s 5) != decHi (((mred (y k) - mred (z k) + mred (x k)) % 8380417 + -mred (x k)) % 8380417) (ss s 5))) ∧ w' = w'' := fun w' => spMakeHintS s _ _ _ hs3 (by omega) (by omega) (by omega) (by omega)
        have hOne := fun w' => lwOne (decHi ((mred (y k) - mred (z k) + mred (x k)) % 8380417) (ss s 5) != decHi (((mred (y k) - mred (z k) + mred (x k)) % 8380417 + -mred (x k)) % 8380417) (ss s 5)) w'
        rw [ho] at hOne
        generalize (decHi ((mred (y k) - mred (z k) + mred (x k)) % 8380417) (ss s 5) != decHi (((mred (y k) - mred (z k) + mred (x k)) % 8380417 + -mred (x k)) % 8380417) (ss s 5)) = bq at hMH hOne ho
        clear ho
        have HMH := Lib.hid hMH; clear hMH
        have HOne := Lib.hid hOne; clear hOne
        go_wp2_with fail
        go_quiet ((first | (go_at_call 16; exact Calls.quiet_eq (spMod _ _ (by omega) (by omega))) | (go_at_call 15; exact Calls.quiet_eq (HMH.out _)) | (go_at_call 11; exact Calls.quiet_eq (HOne.out _))))
        go_wp2_with fail
        go_roundw
        case rel =>
          have hs1 := ht.out
          have hs2 := sumTo_bd (mkv x y z (ss s 5)) (k + 1) (fun i => mkv_bd x y z _ i)
          have hs3 : sumTo (mkv x y z (ss s 5)) (k + 1) = sumTo (mkv x y z (ss s 5)) k + mkv x y z (ss s 5) k := rfl
          have hs4 := sumTo_bd (mkv x y z (ss s 5)) 256 (fun i => mkv_bd x y z _ i)
          exact ⟨k + 1, t - mkv x y z (ss s 5) k, by omega, by go_num, by go_num, by omega, by omega, Lib.hid (by omega), below_drewM hb _, h5.drewN _, h4.drewN _, h3.drewN _, h2.drewN _, h1.drewN _⟩
        case measure => simp [intOf]; omega
      · obtain rfl : k = 256 := by omega
        obtain rfl : t = 0 := by have := ht.out; omega
        go_wp2_with fail
        go_ret
        exact ⟨rfl, hb⟩

end Go.Proofs.YtkckbfjimlmjhaaDoor
