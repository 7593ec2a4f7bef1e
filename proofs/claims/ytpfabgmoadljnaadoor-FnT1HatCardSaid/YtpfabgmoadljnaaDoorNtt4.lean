/-
  The reference's transform back, and its law.
-/
import Derived.Test.YtpfabgmoadljnaaDoorNtt3
namespace Go.Proofs.YtpfabgmoadljnaaDoor
open Go.RowKit

def backsV : Bool := (List.range 256).all fun i => powq 64 1 (rt i) 8380415 == bk i
set_option maxRecDepth 100000 in
theorem backs_v : backsV = true := by decide +kernel
theorem back_v (i : Nat) (hi : i < 256) : powq 64 1 (rt i) 8380415 = bk i := by
  have h := List.all_eq_true.1 backs_v i (List.mem_range.2 hi)
  simpa using h
theorem powq_256 : powq 64 1 256 8380415 = 8347681 := by decide +kernel

set_option maxRecDepth 100000 in
set_option maxHeartbeats 1000000 in
theorem spBackward (f : Nat → Int) (w : World) (hf : ∀ i, i < 256 → 0 ≤ f i ∧ f i < 8380417) :
    Calls Tryd.prog 14 #[.agg (arr .i64 256 f)] w fun e w' => e = .returned (.agg (arr .i64 256 (invF f))) ∧ Below w.heap.size w w' := by
  have HF := Lib.hid hf; clear hf
  go_enter Tryd.func14, Tryd.ntmps14
  go_wp2_with (first | (with_reducible refine at_store 25 _ _ rfl ?_; refine wpList_store_arr iP rfl _ _ rfl _ rfl rfl (Blk.new _ _ _ _ _ (by first | omega | (simp; done) | (simp; omega))) ?_))
  refine (spPower _ _ _ (by omega) (by omega) (by omega) (by omega)).mono ?_
  rintro e w' ⟨rfl, rfl⟩
  rw [powq_256]
  go_wp2_with fail
  go_loopw [5] (fun t wr => ∃ i : Nat, i ≤ 256 ∧ t = .int .i64 (i : Int) ∧ Below w.heap.size w wr ∧ Blk wr (w.heap.size + 1 + 1) .i64 256 (fun j => bacc f j i) 25 ∧ Blk wr (w.heap.size + 1) .i64 256 (fun _ => 0) 25 ∧ Blk wr w.heap.size .i64 256 f 25) (fun t _ => 256 - (intOf t).toNat)
  case atStart => exact ⟨0, by omega, rfl, below_setRow ((((Below.refl _ _).alloc (Nat.le_refl _) _).alloc (by first | omega | (simp; done) | (simp; omega)) _).alloc (by first | omega | (simp; done) | (simp; omega)) _) (by first | omega | (simp; done) | (simp; omega)) _, ((Blk.new _ _ _ _ _ (by first | omega | (simp; done) | (simp; omega))).row _ _).congr (fun j _ => rfl), ((Blk.new _ _ _ _ _ (by first | omega | (simp; done) | (simp; omega))).alloc _).rowOther _ _ (by first | omega | (simp; done) | (simp; omega)), (((Blk.new _ _ _ _ _ rfl).alloc _).alloc _).rowOther _ _ (by first | omega | (simp; done) | (simp; omega))⟩
  case round =>
    obtain ⟨i, hi, rfl, hbe, h2, h1, h0⟩ := hrel
    by_cases hlt : i < 256
    · go_wp2_with fail
      refine (spRoot i _ hlt).mono ?_
      rintro e w' ⟨rfl, rfl⟩
      have hr := rt_bd i
      obtain ⟨r, hre⟩ : ∃ r, r = rt i := ⟨_, rfl⟩
      rw [← hre] at hr
      rw [← hre]
      have HR := Lib.hid hre; clear hre
      obtain ⟨hr0, hr1⟩ := hr
      go_wp2_with fail
      refine (spPower _ _ _ (by omega) (by omega) (by omega) (by omega)).mono ?_
      rintro e w' ⟨rfl, rfl⟩
      rw [HR.out, back_v i hlt]
      have hkb := bk_bd i
      obtain ⟨y, hye⟩ : ∃ y, y = bk i := ⟨_, rfl⟩
      rw [← hye] at hkb
      rw [← hye]
      have HY := Lib.hid hye; clear hye
      obtain ⟨hk0, hk1⟩ := hkb
      have hc0 := h0.cell hlt
      obtain ⟨hv0, hv1⟩ := HF.out i hlt
      obtain ⟨v, hve⟩ : ∃ v, v = f i := ⟨_, rfl⟩
      rw [← hve] at hc0 hv0 hv1
      have HV := Lib.hid hve; clear hve
      obtain ⟨hq0, hq1⟩ := prod_lt v 8347681 8380416 8347681 hv0 (by omega) (by omega) (by omega)
      go_wp2_with fail
      go_loopw [7, 8] (fun p t ws => ∃ (J : Nat) (pv : Int), J ≤ 256 ∧ t = .int .i64 (J : Int) ∧ p = .int .i64 pv ∧ Hid (pv = pw v y J) ∧ 0 ≤ pv ∧ pv < 8380417 ∧ Below w.heap.size w ws ∧ Blk ws (w.heap.size + 1 + 1) .i64 256 (fun t => if t < J then bacc f t (i + 1) else bacc f t i) 25 ∧ Blk ws (w.heap.size + 1) .i64 256 (fun _ => 0) 25 ∧ Blk ws w.heap.size .i64 256 f 25) (fun _ t _ => 256 - (intOf t).toNat)
      case atStart => exact ⟨0, _, by omega, rfl, rfl, Lib.hid rfl, by omega, by omega, hbe, h2.congr (fun j _ => (if_neg (by omega)).symm), h1, h0⟩
      case round =>
        clear hbe h2 h1 h0
        obtain ⟨J, pv, hJ, rfl, rfl, HP, hp0, hp1, hbe, h2, h1, h0⟩ := hrel
        by_cases hJl : J < 256
        · have hc2 := h2.cell hJl
          rw [if_neg (by omega)] at hc2
          have hf2 := h2.frozen J
          have hb := bacc_bd f J i
          obtain ⟨u, hu⟩ : ∃ u, u = bacc f J i := ⟨_, rfl⟩
          rw [← hu] at hc2 hb
          obtain ⟨hb0, hb1⟩ := hb
          obtain ⟨hm0, hm1⟩ := prod_lt pv y 8380416 8380416 hp0 (by omega) hk0 (by omega)
          have HU := Lib.hid hu; clear hu
          go_wp2_with fail
          go_roundw
          case rel => exact ⟨J + 1, _, by omega, by go_num, rfl, Lib.hid (by rw [HP.out]; rfl), by omega, by omega, hbe.setCell (by first | omega | (simp; done) | (simp; omega)) _, (h2.set J _).congr (fun t _ => by
              by_cases e : t = J
              · subst e; rw [if_pos rfl, if_pos (by omega), bacc, ← HU.out, HP.out, ← HV.out, ← HY.out]
              · rw [if_neg e]; by_cases e2 : t < J
                · rw [if_pos e2, if_pos (by omega)]
                · rw [if_neg e2, if_neg (by omega)]), h1.other _ _ (by first | omega | (simp; done) | (simp; omega)), h0.other _ _ (by first | omega | (simp; done) | (simp; omega))⟩
          case measure => simp [intOf]; omega
        · obtain rfl : J = 256 := by omega
          go_wp2_with fail
          go_roundw
          case rel => exact ⟨i + 1, by omega, by go_num, hbe, h2.congr (fun j hj => if_pos hj), h1, h0⟩
          case measure => simp [intOf]; omega
    · obtain rfl : i = 256 := by omega
      have h2 : Blk wr (w.heap.size + 1 + 1) .i64 256 (invF f) 25 := h2.congr fun j hj => (bwd_eq f j hj).symm
      go_wp2_with (first | (with_reducible refine at_load 25 _ rfl ?_; refine wpList_load_arr Tryd.underlying25 iP rfl _ rfl _ rfl (h2) ?_) | (with_reducible refine at_store 25 _ _ rfl ?_; refine wpList_store_arr iP rfl _ _ rfl _ rfl rfl (h1) ?_))
      exact bodyPost_ret (v := .agg (arr .i64 256 (invF f))) (results_arr Tryd.underlying25 iP rfl _ _ _ rfl (h1.row _ _)) rfl ⟨rfl, below_setRow hbe (by first | omega | (simp; done) | (simp; omega)) _⟩

set_option maxRecDepth 100000 in
set_option maxHeartbeats 1000000 in
theorem zzFromNTT (z : Nat → Int) (w : World) (hz : ∀ i, i < 256 → 0 ≤ z i ∧ z i < 8380417) (hg : GArr w 0 .u32 256 zetaV) :
    Calls Tryd.prog 28 #[.agg (arr .u32 256 z)] w fun e w' => e = .returned (.agg (arr .u32 256 (invF z))) ∧ Below w.heap.size w w' := by
  go_enter Tryd.func28, Tryd.ntmps28
  go_wp2_with (first | (with_reducible refine at_load 48 _ rfl ?_; refine wpList_load_arr Tryd.underlying48 iN rfl _ rfl _ rfl ((Blk.new w _ _ _ _ rfl).alloc _) ?_))
  refine (inttW z _ hz ((hg.alloc _).alloc _)).mono ?_
  rintro e w1 ⟨rfl, hb1⟩
  have f0 := Blk.below (Blk.new (g := w.heap.size + 1) (w.alloc (.cells (arr .u32 256 z) 48)) .u32 256 (fun _ => 0) 50 (by first | omega | (simp; done) | (simp; omega))) hb1
  have hB1 := belowChain (((Below.refl w.heap.size w).alloc (Nat.le_refl _) (.cells (arr .u32 256 z) 48)).alloc (by first | omega | (simp; done) | (simp; omega)) (.cells (arr .u32 256 (fun _ => 0)) 50)) hb1 (by first | omega | (simp; done) | (simp; omega))
  go_wp2_with (first | (with_reducible refine at_store 50 _ _ rfl ?_; refine wpList_store_arr iR rfl _ _ rfl _ rfl rfl (f0) ?_))
  exact bodyPost_ret (v := .agg (arr .u32 256 (invF z))) (results_arr Tryd.underlying50 iR rfl _ _ _ rfl (f0.row _ _)) rfl ⟨rfl, below_setRow hB1 (by first | omega | (simp; done) | (simp; omega)) _⟩

set_option maxRecDepth 100000 in
set_option maxHeartbeats 1000000 in
theorem implFromNTT (z : Nat → Int) (w : World) (hz : ∀ i, i < 256 → 0 ≤ z i ∧ z i < 8380417) (hg : GArr w 0 .u32 256 zetaV) :
    Calls Tryd.prog 13 #[.agg (arr .u32 256 z)] w fun e w' => e = .returned (.agg (arr .u32 256 (invF z))) ∧ Below w.heap.size w w' := by
  go_enter Tryd.func13, Tryd.ntmps13
  go_wp2_with (first | (with_reducible refine at_load 23 _ rfl ?_; refine wpList_load_arr Tryd.underlying23 iU rfl _ rfl _ rfl ((Blk.new w _ _ _ _ rfl).alloc _) ?_))
  refine (implTransform z _).mono ?_
  rintro e w1 ⟨rfl, hb1⟩
  have f0 := Blk.below (Blk.new (g := w.heap.size + 1) (w.alloc (.cells (arr .u32 256 z) 23)) .u32 256 (fun _ => 0) 23 (by first | omega | (simp; done) | (simp; omega))) hb1
  have hB1 := belowChain (((Below.refl w.heap.size w).alloc (Nat.le_refl _) (.cells (arr .u32 256 z) 23)).alloc (by first | omega | (simp; done) | (simp; omega)) (.cells (arr .u32 256 (fun _ => 0)) 23)) hb1 (by first | omega | (simp; done) | (simp; omega))
  go_wp2_with fail
  refine (zzFromNTT z _ hz (hg.below hB1)).mono ?_
  rintro e w2 ⟨rfl, hb2⟩
  have f0 := Blk.below f0 hb2
  have hB2 := belowChain hB1 hb2 hB1.size
  go_wp2_with fail
  refine (implOfRing _ _).mono ?_
  rintro e w3 ⟨rfl, hb3⟩
  have f0 := Blk.below f0 hb3
  have hB3 := belowChain hB2 hb3 hB2.size
  go_wp2_with (first | (with_reducible refine at_store 23 _ _ rfl ?_; refine wpList_store_arr iU rfl _ _ rfl _ rfl rfl (f0) ?_))
  exact bodyPost_ret (v := .agg (arr .u32 256 (invF z))) (results_arr Tryd.underlying23 iU rfl _ _ _ rfl (f0.row _ _)) rfl ⟨rfl, below_setRow hB3 (by first | omega | (simp; done) | (simp; omega)) _⟩

set_option maxRecDepth 100000 in
set_option maxHeartbeats 1000000 in
theorem walkFnFromNTT (x : Nat → Int) (w : World) (hg : GArr w 0 .u32 256 zetaV) (hx : ∀ i, i < 256 → 0 ≤ x i ∧ x i < 4294967296) :
    Calls Tryd.prog 4 #[.agg (arr .u32 256 x)] w fun e w' => e = .returned (.bool true) ∧ Below w.heap.size w w' := by
  have HX := Lib.hid hx; clear hx
  have HG := Lib.hid hg; clear hg
  go_enter Tryd.func4, Tryd.ntmps4
  go_wp2_with (first | (with_reducible refine at_load 23 _ rfl ?_; refine wpList_load_arr Tryd.underlying23 iU rfl _ rfl _ rfl (Blk.new w _ _ _ _ rfl) ?_))
  refine (lwRaw x _ HX.out).mono ?_
  rintro e w1 ⟨rfl, hb1⟩
  have f0 := Blk.below (Blk.new w .u32 256 x 23 rfl) hb1
  have hB1 := belowChain ((Below.refl w.heap.size w).alloc (Nat.le_refl _) (.cells (arr .u32 256 x) 23)) hb1 (by first | omega | (simp; done) | (simp; omega))
  have hs1 := f0.lt
  clear hb1
  go_wp2_with (first | (with_reducible refine at_store 25 _ _ rfl ?_; refine wpList_store_arr iP rfl _ _ rfl _ rfl rfl (Blk.new _ _ _ _ _ rfl) ?_))
  have g0 := (f0.alloc (.cells (arr .i64 256 (fun _ => 0)) 25)).rowOther w1.heap.size (arr .i64 256 x) (by first | omega | (simp; done) | (simp; omega))
  have ga := (Blk.new w1 .i64 256 (fun _ => 0) 25 rfl).row .i64 x
  have hB2 := below_setRow (hB1.alloc (by first | omega | (simp; done) | (simp; omega)) (.cells (arr .i64 256 (fun _ => 0)) 25)) (g := w1.heap.size) (by first | omega | (simp; done) | (simp; omega)) (arr .i64 256 x)
  cases hrx : redB x with
  | false =>
    refine wp_region_below (by kernel_rfl) (by kernel_rfl) ?_
    repeat (first | go_big_quiet_skip | (go_big_quiet_want; go_big_quiet_op; first | go_big_quiet_on | (apply Exists.intro; refine ⟨fun _ _ => rfl, ?_⟩; go_big_quiet_on)))
    refine wpQuiet_nil ?_
    intro w3 hb3
    go_wp2_with fail
    go_ret
    exact ⟨rfl, belowChain hB2 hb3 (by first | omega | (simp; done) | (simp; omega))⟩
  | true =>
    have QX := Lib.hid (fun i (hi : i < 256) => And.intro (HX.out i hi).1 (redB_true hrx i hi))
    clear hrx
    refine wp_region_below (by kernel_rfl) (by kernel_rfl) ?_
    (first | go_big_quiet_skip | (go_big_quiet_want; go_big_quiet_op; first | go_big_quiet_on | (apply Exists.intro; refine ⟨fun _ _ => rfl, ?_⟩; go_big_quiet_on)))
    (first | go_big_quiet_skip | (go_big_quiet_want; go_big_quiet_op; first | go_big_quiet_on | (apply Exists.intro; refine ⟨fun _ _ => rfl, ?_⟩; go_big_quiet_on)))
    (first | go_big_quiet_skip | (go_big_quiet_want; go_big_quiet_op; first | go_big_quiet_on | (apply Exists.intro; refine ⟨fun _ _ => rfl, ?_⟩; go_big_quiet_on)))
    (refine BigFrame.wpQuiet_want rfl (fun K hK => ?_); refine quiet_load_arr Tryd.underlying23 iU _ rfl _ rfl (fun w' hw' => Blk.below (g0) hw') (hK _ ?_); clear hK K; simp only [Act.put, List.setIfInBounds_toArray, List.set_cons_zero, List.set_cons_succ])
    go_big_quiet_step ((intro hw'; go_at_call 13; exact Calls.in_below hw' (implFromNTT x _ QX.out ((HG.out.below hB2).below hw'))))
    (refine BigFrame.wpQuiet_want rfl (fun K hK => ?_); refine quiet_load_arr Tryd.underlying25 iP _ rfl _ rfl (fun w' hw' => Blk.below (ga) hw') (hK _ ?_); clear hK K; simp only [Act.put, List.setIfInBounds_toArray, List.set_cons_zero, List.set_cons_succ])
    go_big_quiet_step ((intro hw'; go_at_call 14; exact Calls.in_below hw' (spBackward x _ QX.out)))
    go_big_quiet_step ((intro hw'; go_at_call 10; exact Calls.in_below hw' (lwIsRaw _ _ _ (fun i _ => by have := invF_bd x i; omega) (fun i _ => rfl))))
    (first | go_big_quiet_skip | (go_big_quiet_want; go_big_quiet_op; first | go_big_quiet_on | (apply Exists.intro; refine ⟨fun _ _ => rfl, ?_⟩; go_big_quiet_on)))
    (first | go_big_quiet_skip | (go_big_quiet_want; go_big_quiet_op; first | go_big_quiet_on | (apply Exists.intro; refine ⟨fun _ _ => rfl, ?_⟩; go_big_quiet_on)))
    refine wpQuiet_nil ?_
    intro w2 hb2
    go_wp2_with fail
    go_ret
    exact ⟨rfl, belowChain hB2 hb2 (by first | omega | (simp; done) | (simp; omega))⟩

end Go.Proofs.YtpfabgmoadljnaaDoor
