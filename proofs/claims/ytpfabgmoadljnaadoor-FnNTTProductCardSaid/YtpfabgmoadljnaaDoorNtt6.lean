/-
  The law of a product by way of the transforms.
-/
import Derived.Test.YtpfabgmoadljnaaDoorNtt5
namespace Go.Proofs.YtpfabgmoadljnaaDoor
open Go.RowKit

set_option maxRecDepth 100000 in
set_option maxHeartbeats 1000000 in
theorem walkFnNTTProduct (x y : Nat → Int) (w : World) (hg : GArr w 0 .u32 256 zetaV) (hx : ∀ i, i < 256 → 0 ≤ x i ∧ x i < 4294967296) (hy : ∀ i, i < 256 → 0 ≤ y i ∧ y i < 4294967296) :
    Calls Tryd.prog 8 #[.agg (arr .u32 256 x), .agg (arr .u32 256 y)] w fun e w' => e = .returned (.bool true) ∧ Below w.heap.size w w' := by
  have HX := Lib.hid hx; clear hx
  have HY := Lib.hid hy; clear hy
  have HG := Lib.hid hg; clear hg
  go_enter Tryd.func8, Tryd.ntmps8
  go_wp2_with (first | (with_reducible refine at_loadx 23 2 rfl ?_; refine wpList_load_arr Tryd.underlying23 iU rfl _ rfl _ rfl ((Blk.new w _ _ _ _ rfl).alloc _) ?_))
  refine (lwPlain x _ HX.out).mono ?_
  rintro e w1 ⟨rfl, hb1⟩
  have f0 := Blk.below ((Blk.new w .u32 256 x 23 rfl).alloc (.cells (arr .u32 256 y) 23)) hb1
  have f1 := Blk.below (Blk.new (g := w.heap.size + 1) (w.alloc (.cells (arr .u32 256 x) 23)) .u32 256 y 23 (by first | omega | (simp; done) | (simp; omega))) hb1
  have hB1 := belowChain (((Below.refl w.heap.size w).alloc (Nat.le_refl _) (.cells (arr .u32 256 x) 23)).alloc (by first | omega | (simp; done) | (simp; omega)) (.cells (arr .u32 256 y) 23)) hb1 (by first | omega | (simp; done) | (simp; omega))
  have hs1 := f1.lt
  clear hb1
  go_wp2_with (first | (with_reducible refine at_store 25 _ _ rfl ?_; refine wpList_store_arr iP rfl _ _ rfl _ rfl rfl (Blk.new _ _ _ _ _ rfl) ?_) | (with_reducible refine at_loadx 23 3 rfl ?_; refine wpList_load_arr Tryd.underlying23 iU rfl _ rfl _ rfl ((f1.alloc _).rowOther _ _ (by first | omega | (simp; done) | (simp; omega))) ?_))
  refine (lwPlain y _ HY.out).mono ?_
  rintro e w2 ⟨rfl, hb2⟩
  have g0 := Blk.below ((f0.alloc _).rowOther _ _ (by first | omega | (simp; done) | (simp; omega))) hb2
  have g1 := Blk.below ((f1.alloc _).rowOther _ _ (by first | omega | (simp; done) | (simp; omega))) hb2
  have ga := Blk.below ((Blk.new w1 .i64 256 (fun _ => 0) 25 rfl).row .i64 (fun i => mred (x i))) hb2
  have hB2 := belowChain (below_setRow (hB1.alloc (by first | omega | (simp; done) | (simp; omega)) _) (by first | omega | (simp; done) | (simp; omega)) _) hb2 (by first | omega | (simp; done) | (simp; omega))
  have hs2 := ga.lt
  clear hb2 f0 f1 hB1
  have g0 := (g0.alloc (.cells (arr .i64 256 (fun _ => 0)) 25)).rowOther w2.heap.size (arr .i64 256 (fun i => mred (y i))) (by first | omega | (simp; done) | (simp; omega))
  have g1 := (g1.alloc (.cells (arr .i64 256 (fun _ => 0)) 25)).rowOther w2.heap.size (arr .i64 256 (fun i => mred (y i))) (by first | omega | (simp; done) | (simp; omega))
  have ga := (ga.alloc (.cells (arr .i64 256 (fun _ => 0)) 25)).rowOther w2.heap.size (arr .i64 256 (fun i => mred (y i))) (by first | omega | (simp; done) | (simp; omega))
  have gb := (Blk.new w2 .i64 256 (fun _ => 0) 25 rfl).row .i64 (fun i => mred (y i))
  have hB3 := below_setRow (hB2.alloc (by first | omega | (simp; done) | (simp; omega)) (.cells (arr .i64 256 (fun _ => 0)) 25)) (g := w2.heap.size) (by first | omega | (simp; done) | (simp; omega)) (arr .i64 256 (fun i => mred (y i)))
  cases hrx : redB x with
  | false =>
    go_wp2_with (first | (with_reducible refine at_store 25 _ _ rfl ?_; refine wpList_store_arr iP rfl _ _ rfl _ rfl rfl (Blk.new _ _ _ _ _ rfl) ?_))
    go_ret
    exact ⟨rfl, hB3⟩
  | true =>
    cases hry : redB y with
    | false =>
      go_wp2_with (first | (with_reducible refine at_store 25 _ _ rfl ?_; refine wpList_store_arr iP rfl _ _ rfl _ rfl rfl (Blk.new _ _ _ _ _ rfl) ?_))
      go_ret
      exact ⟨rfl, hB3⟩
    | true =>
      have QX := Lib.hid (fun i (hi : i < 256) => And.intro (HX.out i hi).1 (redB_true hrx i hi))
      have QY := Lib.hid (fun i (hi : i < 256) => And.intro (HY.out i hi).1 (redB_true hry i hi))
      clear hrx hry
      go_wp2_with (first | (with_reducible refine at_storex 25 7 _ rfl ?_; refine wpList_store_arr iP rfl _ _ rfl _ rfl rfl (Blk.new _ _ _ _ _ rfl) ?_) | (with_reducible refine at_storex 25 9 _ rfl ?_; refine wpList_store_arr iP rfl _ _ rfl _ rfl rfl (Blk.new _ _ _ _ _ (by first | omega | (simp; done) | (simp; omega))) ?_))
      go_loopw [10] (fun t wr => ∃ I : Nat, I ≤ 256 ∧ t = .int .i64 (I : Int) ∧ Below w.heap.size w wr ∧ Blk wr (w2.heap.size + 1) .i64 256 (pout (fun i => mred (x i)) (fun i => mred (y i)) I) 25 ∧ Blk wr w1.heap.size .i64 256 (fun i => mred (x i)) 25 ∧ Blk wr w2.heap.size .i64 256 (fun i => mred (y i)) 25 ∧ Blk wr w.heap.size .u32 256 x 23 ∧ Blk wr (w.heap.size + 1) .u32 256 y 23) (fun t _ => 256 - (intOf t).toNat)
      case atStart => exact ⟨0, by omega, rfl, below_setRow (hB3.alloc (by first | omega | (simp; done) | (simp; omega)) (.cells (arr .i64 256 (fun _ => 0)) 25)) (by first | omega | (simp; done) | (simp; omega)) _, ((Blk.new _ _ _ _ _ (by first | omega | (simp; done) | (simp; omega))).row _ _).congr (fun _ _ => rfl), (ga.alloc (.cells (arr .i64 256 (fun _ => 0)) 25)).rowOther _ _ (by first | omega | (simp; done) | (simp; omega)), (gb.alloc (.cells (arr .i64 256 (fun _ => 0)) 25)).rowOther _ _ (by first | omega | (simp; done) | (simp; omega)), (g0.alloc (.cells (arr .i64 256 (fun _ => 0)) 25)).rowOther _ _ (by first | omega | (simp; done) | (simp; omega)), (g1.alloc (.cells (arr .i64 256 (fun _ => 0)) 25)).rowOther _ _ (by first | omega | (simp; done) | (simp; omega))⟩
      case round =>
        clear hB2 hB3 ga gb g0 g1
        obtain ⟨I, hI, rfl, hbe, h9, ga, gb, g0, g1⟩ := hrel
        by_cases hlt : I < 256
        · go_wp2_with fail
          go_loopw [11] (fun t ws => ∃ J : Nat, J ≤ 256 ∧ t = .int .i64 (J : Int) ∧ Below w.heap.size w ws ∧ Blk ws (w2.heap.size + 1) .i64 256 (pin (fun i => mred (x i)) (fun i => mred (y i)) I (pout (fun i => mred (x i)) (fun i => mred (y i)) I) J) 25 ∧ Blk ws w1.heap.size .i64 256 (fun i => mred (x i)) 25 ∧ Blk ws w2.heap.size .i64 256 (fun i => mred (y i)) 25 ∧ Blk ws w.heap.size .u32 256 x 23 ∧ Blk ws (w.heap.size + 1) .u32 256 y 23) (fun t _ => 256 - (intOf t).toNat)
          case atStart => exact ⟨0, by omega, rfl, hbe, h9, ga, gb, g0, g1⟩
          case round =>
            clear hbe h9 ga gb g0 g1
            obtain ⟨J, hJ, rfl, hbe, h9, ga, gb, g0, g1⟩ := hrel
            by_cases hJl : J < 256
            · obtain ⟨K, hK⟩ : ∃ K : Nat, K = (I + J) % 256 := ⟨_, rfl⟩
              have hK2 : K < 256 := by omega
              have hKi : ((I : Int) + (J : Int)) % 256 = (K : Int) := by omega
              have ca := ga.cell hlt
              have cb := gb.cell hJl
              have cp := h9.cell hK2
              have fp := h9.frozen K
              have hu0 := mred_lo (x I); have hu1 := mred_hi (x I)
              have hv0 := mred_lo (y J); have hv1 := mred_hi (y J)
              obtain ⟨hp0, hp1⟩ := pin_bd (fun i => mred (x i)) (fun i => mred (y i)) I _ (fun k => pout_bd (fun i => mred (x i)) (fun i => mred (y i)) I k) J K
              obtain ⟨u, hu⟩ : ∃ u, u = mred (x I) := ⟨_, rfl⟩
              obtain ⟨v, hv⟩ : ∃ v, v = mred (y J) := ⟨_, rfl⟩
              obtain ⟨p, hp⟩ : ∃ p, p = pin (fun i => mred (x i)) (fun i => mred (y i)) I (pout (fun i => mred (x i)) (fun i => mred (y i)) I) J K := ⟨_, rfl⟩
              rw [← hu] at ca hu0 hu1
              rw [← hv] at cb hv0 hv1
              rw [← hp] at cp hp0 hp1
              obtain ⟨hm0, hm1⟩ := prod_lt u v 8380416 8380416 hu0 (by omega) hv0 (by omega)
              have HU := Lib.hid hu; have HV := Lib.hid hv; have HP := Lib.hid hp; have HK := Lib.hid hK; clear hu hv hp hK
              go_wp2_with fail
              refine wp_region_quiet_lit (by kernel_rfl) (by kernel_rfl) ?_
              repeat (go_big_quiet_step (fail))
              refine wpQuiet_nil ?_
              intro _ hw'
              obtain ⟨nq, hw''⟩ := hw'
              subst hw''
              by_cases hw : 256 ≤ I + J
              · go_wp2_with fail
                go_roundw
                case rel => exact ⟨J + 1, by omega, by go_num, (below_drewM hbe nq).setCell (by first | omega | (simp; done) | (simp; omega)) _, ((h9.drewN nq).set K _).congr (fun t _ => by
                    rw [pin, pstep, ← HK.out, upd, ← HP.out, ← HU.out, ← HV.out, wrv, if_pos hw]
                    all_goals (split <;> first | rfl | omega)), (ga.drewN nq).other _ _ (by first | omega | (simp; done) | (simp; omega)), (gb.drewN nq).other _ _ (by first | omega | (simp; done) | (simp; omega)), (g0.drewN nq).other _ _ (by first | omega | (simp; done) | (simp; omega)), (g1.drewN nq).other _ _ (by first | omega | (simp; done) | (simp; omega))⟩
                case measure => simp [intOf]; omega
              · go_wp2_with fail
                go_roundw
                case rel => exact ⟨J + 1, by omega, by go_num, (below_drewM hbe nq).setCell (by first | omega | (simp; done) | (simp; omega)) _, ((h9.drewN nq).set K _).congr (fun t _ => by
                    rw [pin, pstep, ← HK.out, upd, ← HP.out, ← HU.out, ← HV.out, wrv, if_neg hw]
                    all_goals (split <;> first | rfl | omega)), (ga.drewN nq).other _ _ (by first | omega | (simp; done) | (simp; omega)), (gb.drewN nq).other _ _ (by first | omega | (simp; done) | (simp; omega)), (g0.drewN nq).other _ _ (by first | omega | (simp; done) | (simp; omega)), (g1.drewN nq).other _ _ (by first | omega | (simp; done) | (simp; omega))⟩
                case measure => simp [intOf]; omega
            · obtain rfl : J = 256 := by omega
              go_wp2_with fail
              go_roundw
              case rel => exact ⟨I + 1, by omega, by go_num, hbe, h9, ga, gb, g0, g1⟩
              case measure => simp [intOf]; omega
        · obtain rfl : I = 256 := by omega
          have hbe' := hbe
          go_wp2_with fail
          refine wp_region_below (by kernel_rfl) (by kernel_rfl) ?_
          (refine BigFrame.wpQuiet_want rfl (fun K hK => ?_); refine quiet_load_arr Tryd.underlying23 iU _ rfl _ rfl (fun w' hw' => Blk.below (g0) hw') (hK _ ?_); clear hK K; simp only [Act.put, List.setIfInBounds_toArray, List.set_cons_zero, List.set_cons_succ])
          go_big_quiet_step ((intro hw'; go_at_call 11; exact Calls.in_below hw' (implToNTT x _ QX.out ((HG.out.below hbe').below hw'))))
          (refine BigFrame.wpQuiet_want rfl (fun K hK => ?_); refine quiet_load_arr Tryd.underlying23 iU _ rfl _ rfl (fun w' hw' => Blk.below (g1) hw') (hK _ ?_); clear hK K; simp only [Act.put, List.setIfInBounds_toArray, List.set_cons_zero, List.set_cons_succ])
          go_big_quiet_step ((intro hw'; go_at_call 11; exact Calls.in_below hw' (implToNTT y _ QY.out ((HG.out.below hbe').below hw'))))
          go_big_quiet_step ((intro hw'; go_at_call 22; exact Calls.in_below hw' (implNTTMul (nttF x) (nttF y) _ (fun i _ => nttF_bd _ i) (fun i _ => nttF_bd _ i))))
          go_big_quiet_step ((intro hw'; go_at_call 13; exact Calls.in_below hw' (implFromNTT (fun i => mred (nttF x i * nttF y i)) _ (fun i _ => ⟨mred_lo _, mred_hi _⟩) ((HG.out.below hbe').below hw'))))
          (refine BigFrame.wpQuiet_want rfl (fun K hK => ?_); refine quiet_load_arr Tryd.underlying25 iP _ rfl _ rfl (fun w' hw' => Blk.below (h9) hw') (hK _ ?_); clear hK K; simp only [Act.put, List.setIfInBounds_toArray, List.set_cons_zero, List.set_cons_succ])
          go_big_quiet_step ((intro hw'; go_at_call 20; exact Calls.in_below hw' (lwIs _ _ _ (fun i _ => by have := invF_bd (fun i => mred (nttF x i * nttF y i)) i; omega) (fun i hi => ⟨by have := pout_bd (fun i => mred (x i)) (fun i => mred (y i)) 256 i; omega, prod_back x y i hi⟩))))
          (first | go_big_quiet_skip | (go_big_quiet_want; go_big_quiet_op; first | go_big_quiet_on | (apply Exists.intro; refine ⟨fun _ _ => rfl, ?_⟩; go_big_quiet_on)))
          refine wpQuiet_nil ?_
          intro w2 hb2
          go_wp2_with fail
          go_ret
          exact ⟨rfl, belowChain hbe hb2 hbe.size⟩

end Go.Proofs.YtpfabgmoadljnaaDoor
