/-
  The law of the transform there and back.
-/
import Derived.Test.YtpfabgmoadljnaaDoorNtt5
import Derived.Test.YtpfabgmoadljnaaDoorFloat
namespace Go.Proofs.YtpfabgmoadljnaaDoor
open Go.RowKit

set_option maxRecDepth 100000 in
set_option maxHeartbeats 8000000 in
theorem walkFnNTTBack (x : Nat → Int) (w : World) (hg : GArr w 0 .u32 256 zetaV) (hx : ∀ i, i < 256 → 0 ≤ x i ∧ x i < 4294967296) :
    Calls Tryd.prog 7 #[.agg (arr .u32 256 x)] w fun e w' => e = .returned (.bool true) ∧ Below w.heap.size w w' := by
  have HX := Lib.hid hx; clear hx
  have HG := Lib.hid hg; clear hg
  have f0 := Blk.new w .u32 256 x 23 rfl
  have hB0 := (Below.refl w.heap.size w).alloc (Nat.le_refl _) (.cells (arr .u32 256 x) 23)
  cases hrx : redB x with
  | false =>
    go_enter Tryd.func7, Tryd.ntmps7
    go_wp2_with fail
    refine (lwReducedArr _ x _ _ f0).mono ?_
    rintro e w' ⟨rfl, rfl⟩
    rw [hrx]
    go_wp2_with fail
    go_ret
    exact ⟨rfl, hB0⟩
  | true =>
    have QX := Lib.hid (fun i (hi : i < 256) => And.intro (HX.out i hi).1 (redB_true hrx i hi))
    go_enter Tryd.func7, Tryd.ntmps7
    go_wp2_with fail
    refine (lwReducedArr _ x _ _ f0).mono ?_
    rintro e w' ⟨rfl, rfl⟩
    rw [hrx]
    clear hrx
    have hbu := bdU1
    go_wp2_with fail
    refine (implToNTT e1 _ e1_bd (HG.out.below hB0)).mono ?_
    rintro e w1 ⟨rfl, hb1⟩
    clear hbu
    have f0 := f0.below hb1
    have hB1 := belowChain hB0 hb1 hB0.size
    have hs1 := f0.lt
    clear hb1
    go_wp2_with (first | (with_reducible refine at_store 23 _ _ rfl ?_; refine wpList_store_arr iU rfl _ _ rfl _ rfl rfl (Blk.new _ _ _ _ _ rfl) ?_))
    have f0 := (f0.alloc (.cells (arr .u32 256 (fun _ => 0)) 23)).rowOther w1.heap.size (arr .u32 256 (nttF e1)) (by first | omega | (simp; done) | (simp; omega))
    have go := (Blk.new w1 .u32 256 (fun _ => 0) 23 rfl).row .u32 (nttF e1)
    have hB := below_setRow (hB1.alloc (by first | omega | (simp; done) | (simp; omega)) (.cells (arr .u32 256 (fun _ => 0)) 23)) (g := w1.heap.size) (by first | omega | (simp; done) | (simp; omega)) (arr .u32 256 (nttF e1))
    clear hB0 hB1 hs1
    try simp only [Act.put]
    refine wp_region_viaA (fun A a' w' => ∃ g1 g2 : Nat, Below w.heap.size w w' ∧ Blk w' w.heap.size .u32 256 x 23 ∧ Blk w' w1.heap.size .u32 256 (nttF e1) 23 ∧ Blk w' g1 .u32 256 (nttF x) 23 ∧ Blk w' g2 .u32 256 (invF x) 23 ∧
      a' = (((((A.put (some 11) (.agg (arr .u32 256 x))).put (some 13) (.agg (arr .u32 256 x))).put (some 12) (.agg (arr .u32 256 (nttF x)))).put (some 14) (.agg (arr .u32 256 (invF x)))).put (some 4) (.pointer (some ⟨g1, 0, none⟩))).put (some 5) (.pointer (some ⟨g2, 0, none⟩))) ?_ ?_
    · refine wp_region_mids (C := Abv _) [0, 2] 6 (by kernel_rfl) (by kernel_rfl) (fun _ _ _ _ _ h => nomatch h.1) (abv_drawn _) (by kernel_rfl) ?_
      simp only [opsAt, List.filterMap_cons, List.filterMap_nil, List.getElem?_toArray, List.getElem?_cons_succ, List.getElem?_cons_zero]
      change wpQuiet _ _ _ _ (_ :: _ :: []) _
      (refine BigFrame.wpQuiet_want rfl (fun K hK => ?_); refine quiet_load_arr Tryd.underlying23 iU _ rfl _ rfl (fun w' hw' => Blk.below (f0) hw') (hK _ ?_); clear hK K; simp only [Act.put, List.setIfInBounds_toArray, List.set_cons_zero, List.set_cons_succ])
      (refine BigFrame.wpQuiet_want rfl (fun K hK => ?_); refine quiet_load_arr Tryd.underlying23 iU _ rfl _ rfl (fun w' hw' => Blk.below (f0) hw') (hK _ ?_); clear hK K; simp only [Act.put, List.setIfInBounds_toArray, List.set_cons_zero, List.set_cons_succ])
      refine wpQuiet_nil ?_
      have hc := abv_drawn ((w1.alloc (.cells (arr .u32 256 (fun _ => 0)) 23)).setRow w1.heap.size (arr .u32 256 (nttF e1)))
      have hB := hB.trans (hc.mono hB.size)
      obtain ⟨Wd, hWd⟩ : ∃ Wd : World, Wd = { ((w1.alloc (.cells (arr .u32 256 (fun _ => 0)) 23)).setRow w1.heap.size (arr .u32 256 (nttF e1)) : World) with drawn := ((w1.alloc (.cells (arr .u32 256 (fun _ => 0)) 23)).setRow w1.heap.size (arr .u32 256 (nttF e1)) : World).drawn + 1 } := ⟨_, rfl⟩
      rw [← hWd] at hc hB ⊢
      have f0 : Blk Wd w.heap.size .u32 256 x 23 := by rw [hWd]; exact f0
      have go : Blk Wd w1.heap.size .u32 256 (nttF e1) 23 := by rw [hWd]; exact go
      clear hWd
      refine wpAnyH_all (rs := [1, 4, 5]) (by kernel_rfl) (by decide) ?_
      intro i hi
      rcases mem3 hi with rfl | rfl | rfl
      · refine wpOp_call _ rfl rfl 11 _ _ rfl (by kernel_rfl) #[(.agg (arr .u32 256 x))] (by simp only [List.map_toArray, List.map_cons, List.map_nil]; rfl) ?_
        refine (implToNTT x _ QX.out (HG.out.below hB)).mono ?_
        rintro e wc0 ⟨rfl, hb⟩
        have f0 := f0.below hb
        have go := go.below hb
        have hB := belowChain hB hb hB.size
        have hc := Below.trans hc (hb.mono hc.size)
        clear hb
        refine ⟨_, rfl, hc, ?_⟩
        refine wpAnyH_all (rs := [3, 4, 5]) (by kernel_rfl) (by decide) ?_
        intro i hi
        rcases mem3 hi with rfl | rfl | rfl
        · refine wpOp_call _ rfl rfl 13 _ _ rfl (by kernel_rfl) #[(.agg (arr .u32 256 x))] (by simp only [List.map_toArray, List.map_cons, List.map_nil]; rfl) ?_
          refine (implFromNTT x _ QX.out (HG.out.below hB)).mono ?_
          rintro e wc1 ⟨rfl, hb⟩
          have f0 := f0.below hb
          have go := go.below hb
          have hB := belowChain hB hb hB.size
          have hc := Below.trans hc (hb.mono hc.size)
          clear hb
          refine ⟨_, rfl, hc, ?_⟩
          refine wpAnyH_all (rs := [4, 5]) (by kernel_rfl) (by decide) ?_
          intro i hi
          rcases mem2 hi with rfl | rfl
          · refine wpOp_alloc _ rfl rfl 23 rfl zU ?_
            have n1f := Nat.ne_of_lt f0.lt
            have n1g := Nat.ne_of_lt go.lt
            have l1 := Nat.le_of_lt f0.lt
            have c1 := hc.size
            have f0 := f0.alloc (.cells (arr .u32 256 (fun _ => 0)) 23)
            have go := go.alloc (.cells (arr .u32 256 (fun _ => 0)) 23)
            have k1 := Blk.new (wc1) .u32 256 (fun _ => 0) 23 rfl
            have hB := hB.alloc hB.size (.cells (arr .u32 256 (fun _ => 0)) 23)
            have hc := Below.alloc hc hc.size (.cells (arr .u32 256 (fun _ => 0)) 23)
            refine ⟨hc, ?_⟩
            refine wpAnyH_all (rs := [5]) (by kernel_rfl) (by decide) ?_
            intro i hi
            obtain rfl := mem1 hi
            refine wpOp_alloc _ rfl rfl 23 rfl zU ?_
            have n2f := Nat.ne_of_lt f0.lt
            have n2g := Nat.ne_of_lt go.lt
            have l2 := Nat.le_of_lt f0.lt
            have c2 := hc.size
            have n12 := Nat.ne_of_lt k1.lt
            have f0 := f0.alloc (.cells (arr .u32 256 (fun _ => 0)) 23)
            have go := go.alloc (.cells (arr .u32 256 (fun _ => 0)) 23)
            have k1 := k1.alloc (.cells (arr .u32 256 (fun _ => 0)) 23)
            have k2 := Blk.new ((wc1).alloc (.cells (arr .u32 256 (fun _ => 0)) 23)) .u32 256 (fun _ => 0) 23 rfl
            have hB := hB.alloc hB.size (.cells (arr .u32 256 (fun _ => 0)) 23)
            have hc := Below.alloc hc hc.size (.cells (arr .u32 256 (fun _ => 0)) 23)
            refine ⟨hc, ?_⟩
            refine wpAnyH_all (rs := [6]) (by kernel_rfl) (by decide) ?_
            intro i hi
            obtain rfl := mem1 hi
            refine wpOp_store_arr _ rfl rfl iU _ _ rfl _ rfl rfl k1 ?_
            have f0 := f0.rowOther _ (arr .u32 256 (nttF x)) n1f
            have go := go.rowOther _ (arr .u32 256 (nttF x)) n1g
            have k2 := k2.rowOther _ (arr .u32 256 (nttF x)) n12.symm
            have k1 := k1.row .u32 (nttF x)
            have hB := below_setRow hB l1 (arr .u32 256 (nttF x))
            have hc := below_setRow hc c1 (arr .u32 256 (nttF x))
            refine ⟨hc, ?_⟩
            refine wpAnyH_all (rs := [7]) (by kernel_rfl) (by decide) ?_
            intro i hi
            obtain rfl := mem1 hi
            refine wpOp_store_arr _ rfl rfl iU _ _ rfl _ rfl rfl k2 ?_
            have f0 := f0.rowOther _ (arr .u32 256 (invF x)) n2f
            have go := go.rowOther _ (arr .u32 256 (invF x)) n2g
            have k1 := k1.rowOther _ (arr .u32 256 (invF x)) n12
            have k2 := k2.row .u32 (invF x)
            have hB := below_setRow hB l2 (arr .u32 256 (invF x))
            have hc := below_setRow hc c2 (arr .u32 256 (invF x))
            refine ⟨hc, ?_⟩
            refine wpAnyH_done (by kernel_rfl) ⟨rfl, _, _, hB, f0, go, k1, k2, rfl⟩ _
          · refine wpOp_alloc _ rfl rfl 23 rfl zU ?_
            have n2f := Nat.ne_of_lt f0.lt
            have n2g := Nat.ne_of_lt go.lt
            have l2 := Nat.le_of_lt f0.lt
            have c2 := hc.size
            have f0 := f0.alloc (.cells (arr .u32 256 (fun _ => 0)) 23)
            have go := go.alloc (.cells (arr .u32 256 (fun _ => 0)) 23)
            have k2 := Blk.new (wc1) .u32 256 (fun _ => 0) 23 rfl
            have hB := hB.alloc hB.size (.cells (arr .u32 256 (fun _ => 0)) 23)
            have hc := Below.alloc hc hc.size (.cells (arr .u32 256 (fun _ => 0)) 23)
            refine ⟨hc, ?_⟩
            refine wpAnyH_all (rs := [4]) (by kernel_rfl) (by decide) ?_
            intro i hi
            obtain rfl := mem1 hi
            refine wpOp_alloc _ rfl rfl 23 rfl zU ?_
            have n1f := Nat.ne_of_lt f0.lt
            have n1g := Nat.ne_of_lt go.lt
            have l1 := Nat.le_of_lt f0.lt
            have c1 := hc.size
            have n12 := Nat.ne_of_lt k2.lt
            have f0 := f0.alloc (.cells (arr .u32 256 (fun _ => 0)) 23)
            have go := go.alloc (.cells (arr .u32 256 (fun _ => 0)) 23)
            have k2 := k2.alloc (.cells (arr .u32 256 (fun _ => 0)) 23)
            have k1 := Blk.new ((wc1).alloc (.cells (arr .u32 256 (fun _ => 0)) 23)) .u32 256 (fun _ => 0) 23 rfl
            have hB := hB.alloc hB.size (.cells (arr .u32 256 (fun _ => 0)) 23)
            have hc := Below.alloc hc hc.size (.cells (arr .u32 256 (fun _ => 0)) 23)
            refine ⟨hc, ?_⟩
            refine wpAnyH_all (rs := [6]) (by kernel_rfl) (by decide) ?_
            intro i hi
            obtain rfl := mem1 hi
            refine wpOp_store_arr _ rfl rfl iU _ _ rfl _ rfl rfl k1 ?_
            have f0 := f0.rowOther _ (arr .u32 256 (nttF x)) n1f
            have go := go.rowOther _ (arr .u32 256 (nttF x)) n1g
            have k2 := k2.rowOther _ (arr .u32 256 (nttF x)) n12
            have k1 := k1.row .u32 (nttF x)
            have hB := below_setRow hB l1 (arr .u32 256 (nttF x))
            have hc := below_setRow hc c1 (arr .u32 256 (nttF x))
            refine ⟨hc, ?_⟩
            refine wpAnyH_all (rs := [7]) (by kernel_rfl) (by decide) ?_
            intro i hi
            obtain rfl := mem1 hi
            refine wpOp_store_arr _ rfl rfl iU _ _ rfl _ rfl rfl k2 ?_
            have f0 := f0.rowOther _ (arr .u32 256 (invF x)) n2f
            have go := go.rowOther _ (arr .u32 256 (invF x)) n2g
            have k1 := k1.rowOther _ (arr .u32 256 (invF x)) n12.symm
            have k2 := k2.row .u32 (invF x)
            have hB := below_setRow hB l2 (arr .u32 256 (invF x))
            have hc := below_setRow hc c2 (arr .u32 256 (invF x))
            refine ⟨hc, ?_⟩
            refine wpAnyH_done (by kernel_rfl) ⟨rfl, _, _, hB, f0, go, k1, k2, rfl⟩ _
        · refine wpOp_alloc _ rfl rfl 23 rfl zU ?_
          have n1f := Nat.ne_of_lt f0.lt
          have n1g := Nat.ne_of_lt go.lt
          have l1 := Nat.le_of_lt f0.lt
          have c1 := hc.size
          have f0 := f0.alloc (.cells (arr .u32 256 (fun _ => 0)) 23)
          have go := go.alloc (.cells (arr .u32 256 (fun _ => 0)) 23)
          have k1 := Blk.new (wc0) .u32 256 (fun _ => 0) 23 rfl
          have hB := hB.alloc hB.size (.cells (arr .u32 256 (fun _ => 0)) 23)
          have hc := Below.alloc hc hc.size (.cells (arr .u32 256 (fun _ => 0)) 23)
          refine ⟨hc, ?_⟩
          refine wpAnyH_all (rs := [3, 5]) (by kernel_rfl) (by decide) ?_
          intro i hi
          rcases mem2 hi with rfl | rfl
          · refine wpOp_call _ rfl rfl 13 _ _ rfl (by kernel_rfl) #[(.agg (arr .u32 256 x))] (by simp only [List.map_toArray, List.map_cons, List.map_nil]; rfl) ?_
            refine (implFromNTT x _ QX.out (HG.out.below hB)).mono ?_
            rintro e wc2 ⟨rfl, hb⟩
            have f0 := f0.below hb
            have go := go.below hb
            have k1 := k1.below hb
            have hB := belowChain hB hb hB.size
            have hc := Below.trans hc (hb.mono hc.size)
            clear hb
            refine ⟨_, rfl, hc, ?_⟩
            refine wpAnyH_all (rs := [5]) (by kernel_rfl) (by decide) ?_
            intro i hi
            obtain rfl := mem1 hi
            refine wpOp_alloc _ rfl rfl 23 rfl zU ?_
            have n2f := Nat.ne_of_lt f0.lt
            have n2g := Nat.ne_of_lt go.lt
            have l2 := Nat.le_of_lt f0.lt
            have c2 := hc.size
            have n12 := Nat.ne_of_lt k1.lt
            have f0 := f0.alloc (.cells (arr .u32 256 (fun _ => 0)) 23)
            have go := go.alloc (.cells (arr .u32 256 (fun _ => 0)) 23)
            have k1 := k1.alloc (.cells (arr .u32 256 (fun _ => 0)) 23)
            have k2 := Blk.new (wc2) .u32 256 (fun _ => 0) 23 rfl
            have hB := hB.alloc hB.size (.cells (arr .u32 256 (fun _ => 0)) 23)
            have hc := Below.alloc hc hc.size (.cells (arr .u32 256 (fun _ => 0)) 23)
            refine ⟨hc, ?_⟩
            refine wpAnyH_all (rs := [6]) (by kernel_rfl) (by decide) ?_
            intro i hi
            obtain rfl := mem1 hi
            refine wpOp_store_arr _ rfl rfl iU _ _ rfl _ rfl rfl k1 ?_
            have f0 := f0.rowOther _ (arr .u32 256 (nttF x)) n1f
            have go := go.rowOther _ (arr .u32 256 (nttF x)) n1g
            have k2 := k2.rowOther _ (arr .u32 256 (nttF x)) n12.symm
            have k1 := k1.row .u32 (nttF x)
            have hB := below_setRow hB l1 (arr .u32 256 (nttF x))
            have hc := below_setRow hc c1 (arr .u32 256 (nttF x))
            refine ⟨hc, ?_⟩
            refine wpAnyH_all (rs := [7]) (by kernel_rfl) (by decide) ?_
            intro i hi
            obtain rfl := mem1 hi
            refine wpOp_store_arr _ rfl rfl iU _ _ rfl _ rfl rfl k2 ?_
            have f0 := f0.rowOther _ (arr .u32 256 (invF x)) n2f
            have go := go.rowOther _ (arr .u32 256 (invF x)) n2g
            have k1 := k1.rowOther _ (arr .u32 256 (invF x)) n12
            have k2 := k2.row .u32 (invF x)
            have hB := below_setRow hB l2 (arr .u32 256 (invF x))
            have hc := below_setRow hc c2 (arr .u32 256 (invF x))
            refine ⟨hc, ?_⟩
            refine wpAnyH_done (by kernel_rfl) ⟨rfl, _, _, hB, f0, go, k1, k2, rfl⟩ _
          · refine wpOp_alloc _ rfl rfl 23 rfl zU ?_
            have n2f := Nat.ne_of_lt f0.lt
            have n2g := Nat.ne_of_lt go.lt
            have l2 := Nat.le_of_lt f0.lt
            have c2 := hc.size
            have n12 := Nat.ne_of_lt k1.lt
            have f0 := f0.alloc (.cells (arr .u32 256 (fun _ => 0)) 23)
            have go := go.alloc (.cells (arr .u32 256 (fun _ => 0)) 23)
            have k1 := k1.alloc (.cells (arr .u32 256 (fun _ => 0)) 23)
            have k2 := Blk.new ((wc0).alloc (.cells (arr .u32 256 (fun _ => 0)) 23)) .u32 256 (fun _ => 0) 23 rfl
            have hB := hB.alloc hB.size (.cells (arr .u32 256 (fun _ => 0)) 23)
            have hc := Below.alloc hc hc.size (.cells (arr .u32 256 (fun _ => 0)) 23)
            refine ⟨hc, ?_⟩
            refine wpAnyH_all (rs := [3]) (by kernel_rfl) (by decide) ?_
            intro i hi
            obtain rfl := mem1 hi
            refine wpOp_call _ rfl rfl 13 _ _ rfl (by kernel_rfl) #[(.agg (arr .u32 256 x))] (by simp only [List.map_toArray, List.map_cons, List.map_nil]; rfl) ?_
            refine (implFromNTT x _ QX.out (HG.out.below hB)).mono ?_
            rintro e wc3 ⟨rfl, hb⟩
            have f0 := f0.below hb
            have go := go.below hb
            have k1 := k1.below hb
            have k2 := k2.below hb
            have hB := belowChain hB hb hB.size
            have hc := Below.trans hc (hb.mono hc.size)
            clear hb
            refine ⟨_, rfl, hc, ?_⟩
            refine wpAnyH_all (rs := [6]) (by kernel_rfl) (by decide) ?_
            intro i hi
            obtain rfl := mem1 hi
            refine wpOp_store_arr _ rfl rfl iU _ _ rfl _ rfl rfl k1 ?_
            have f0 := f0.rowOther _ (arr .u32 256 (nttF x)) n1f
            have go := go.rowOther _ (arr .u32 256 (nttF x)) n1g
            have k2 := k2.rowOther _ (arr .u32 256 (nttF x)) n12.symm
            have k1 := k1.row .u32 (nttF x)
            have hB := below_setRow hB l1 (arr .u32 256 (nttF x))
            have hc := below_setRow hc c1 (arr .u32 256 (nttF x))
            refine ⟨hc, ?_⟩
            refine wpAnyH_all (rs := [7]) (by kernel_rfl) (by decide) ?_
            intro i hi
            obtain rfl := mem1 hi
            refine wpOp_store_arr _ rfl rfl iU _ _ rfl _ rfl rfl k2 ?_
            have f0 := f0.rowOther _ (arr .u32 256 (invF x)) n2f
            have go := go.rowOther _ (arr .u32 256 (invF x)) n2g
            have k1 := k1.rowOther _ (arr .u32 256 (invF x)) n12
            have k2 := k2.row .u32 (invF x)
            have hB := below_setRow hB l2 (arr .u32 256 (invF x))
            have hc := below_setRow hc c2 (arr .u32 256 (invF x))
            refine ⟨hc, ?_⟩
            refine wpAnyH_done (by kernel_rfl) ⟨rfl, _, _, hB, f0, go, k1, k2, rfl⟩ _
        · refine wpOp_alloc _ rfl rfl 23 rfl zU ?_
          have n2f := Nat.ne_of_lt f0.lt
          have n2g := Nat.ne_of_lt go.lt
          have l2 := Nat.le_of_lt f0.lt
          have c2 := hc.size
          have f0 := f0.alloc (.cells (arr .u32 256 (fun _ => 0)) 23)
          have go := go.alloc (.cells (arr .u32 256 (fun _ => 0)) 23)
          have k2 := Blk.new (wc0) .u32 256 (fun _ => 0) 23 rfl
          have hB := hB.alloc hB.size (.cells (arr .u32 256 (fun _ => 0)) 23)
          have hc := Below.alloc hc hc.size (.cells (arr .u32 256 (fun _ => 0)) 23)
          refine ⟨hc, ?_⟩
          refine wpAnyH_all (rs := [3, 4]) (by kernel_rfl) (by decide) ?_
          intro i hi
          rcases mem2 hi with rfl | rfl
          · refine wpOp_call _ rfl rfl 13 _ _ rfl (by kernel_rfl) #[(.agg (arr .u32 256 x))] (by simp only [List.map_toArray, List.map_cons, List.map_nil]; rfl) ?_
            refine (implFromNTT x _ QX.out (HG.out.below hB)).mono ?_
            rintro e wc2 ⟨rfl, hb⟩
            have f0 := f0.below hb
            have go := go.below hb
            have k2 := k2.below hb
            have hB := belowChain hB hb hB.size
            have hc := Below.trans hc (hb.mono hc.size)
            clear hb
            refine ⟨_, rfl, hc, ?_⟩
            refine wpAnyH_all (rs := [4]) (by kernel_rfl) (by decide) ?_
            intro i hi
            obtain rfl := mem1 hi
            refine wpOp_alloc _ rfl rfl 23 rfl zU ?_
            have n1f := Nat.ne_of_lt f0.lt
            have n1g := Nat.ne_of_lt go.lt
            have l1 := Nat.le_of_lt f0.lt
            have c1 := hc.size
            have n12 := Nat.ne_of_lt k2.lt
            have f0 := f0.alloc (.cells (arr .u32 256 (fun _ => 0)) 23)
            have go := go.alloc (.cells (arr .u32 256 (fun _ => 0)) 23)
            have k2 := k2.alloc (.cells (arr .u32 256 (fun _ => 0)) 23)
            have k1 := Blk.new (wc2) .u32 256 (fun _ => 0) 23 rfl
            have hB := hB.alloc hB.size (.cells (arr .u32 256 (fun _ => 0)) 23)
            have hc := Below.alloc hc hc.size (.cells (arr .u32 256 (fun _ => 0)) 23)
            refine ⟨hc, ?_⟩
            refine wpAnyH_all (rs := [6]) (by kernel_rfl) (by decide) ?_
            intro i hi
            obtain rfl := mem1 hi
            refine wpOp_store_arr _ rfl rfl iU _ _ rfl _ rfl rfl k1 ?_
            have f0 := f0.rowOther _ (arr .u32 256 (nttF x)) n1f
            have go := go.rowOther _ (arr .u32 256 (nttF x)) n1g
            have k2 := k2.rowOther _ (arr .u32 256 (nttF x)) n12
            have k1 := k1.row .u32 (nttF x)
            have hB := below_setRow hB l1 (arr .u32 256 (nttF x))
            have hc := below_setRow hc c1 (arr .u32 256 (nttF x))
            refine ⟨hc, ?_⟩
            refine wpAnyH_all (rs := [7]) (by kernel_rfl) (by decide) ?_
            intro i hi
            obtain rfl := mem1 hi
            refine wpOp_store_arr _ rfl rfl iU _ _ rfl _ rfl rfl k2 ?_
            have f0 := f0.rowOther _ (arr .u32 256 (invF x)) n2f
            have go := go.rowOther _ (arr .u32 256 (invF x)) n2g
            have k1 := k1.rowOther _ (arr .u32 256 (invF x)) n12.symm
            have k2 := k2.row .u32 (invF x)
            have hB := below_setRow hB l2 (arr .u32 256 (invF x))
            have hc := below_setRow hc c2 (arr .u32 256 (invF x))
            refine ⟨hc, ?_⟩
            refine wpAnyH_done (by kernel_rfl) ⟨rfl, _, _, hB, f0, go, k1, k2, rfl⟩ _
          · refine wpOp_alloc _ rfl rfl 23 rfl zU ?_
            have n1f := Nat.ne_of_lt f0.lt
            have n1g := Nat.ne_of_lt go.lt
            have l1 := Nat.le_of_lt f0.lt
            have c1 := hc.size
            have n12 := Nat.ne_of_lt k2.lt
            have f0 := f0.alloc (.cells (arr .u32 256 (fun _ => 0)) 23)
            have go := go.alloc (.cells (arr .u32 256 (fun _ => 0)) 23)
            have k2 := k2.alloc (.cells (arr .u32 256 (fun _ => 0)) 23)
            have k1 := Blk.new ((wc0).alloc (.cells (arr .u32 256 (fun _ => 0)) 23)) .u32 256 (fun _ => 0) 23 rfl
            have hB := hB.alloc hB.size (.cells (arr .u32 256 (fun _ => 0)) 23)
            have hc := Below.alloc hc hc.size (.cells (arr .u32 256 (fun _ => 0)) 23)
            refine ⟨hc, ?_⟩
            refine wpAnyH_all (rs := [3]) (by kernel_rfl) (by decide) ?_
            intro i hi
            obtain rfl := mem1 hi
            refine wpOp_call _ rfl rfl 13 _ _ rfl (by kernel_rfl) #[(.agg (arr .u32 256 x))] (by simp only [List.map_toArray, List.map_cons, List.map_nil]; rfl) ?_
            refine (implFromNTT x _ QX.out (HG.out.below hB)).mono ?_
            rintro e wc3 ⟨rfl, hb⟩
            have f0 := f0.below hb
            have go := go.below hb
            have k1 := k1.below hb
            have k2 := k2.below hb
            have hB := belowChain hB hb hB.size
            have hc := Below.trans hc (hb.mono hc.size)
            clear hb
            refine ⟨_, rfl, hc, ?_⟩
            refine wpAnyH_all (rs := [6]) (by kernel_rfl) (by decide) ?_
            intro i hi
            obtain rfl := mem1 hi
            refine wpOp_store_arr _ rfl rfl iU _ _ rfl _ rfl rfl k1 ?_
            have f0 := f0.rowOther _ (arr .u32 256 (nttF x)) n1f
            have go := go.rowOther _ (arr .u32 256 (nttF x)) n1g
            have k2 := k2.rowOther _ (arr .u32 256 (nttF x)) n12
            have k1 := k1.row .u32 (nttF x)
            have hB := below_setRow hB l1 (arr .u32 256 (nttF x))
            have hc := below_setRow hc c1 (arr .u32 256 (nttF x))
            refine ⟨hc, ?_⟩
            refine wpAnyH_all (rs := [7]) (by kernel_rfl) (by decide) ?_
            intro i hi
            obtain rfl := mem1 hi
            refine wpOp_store_arr _ rfl rfl iU _ _ rfl _ rfl rfl k2 ?_
            have f0 := f0.rowOther _ (arr .u32 256 (invF x)) n2f
            have go := go.rowOther _ (arr .u32 256 (invF x)) n2g
            have k1 := k1.rowOther _ (arr .u32 256 (invF x)) n12.symm
            have k2 := k2.row .u32 (invF x)
            have hB := below_setRow hB l2 (arr .u32 256 (invF x))
            have hc := below_setRow hc c2 (arr .u32 256 (invF x))
            refine ⟨hc, ?_⟩
            refine wpAnyH_done (by kernel_rfl) ⟨rfl, _, _, hB, f0, go, k1, k2, rfl⟩ _
      · refine wpOp_alloc _ rfl rfl 23 rfl zU ?_
        have n1f := Nat.ne_of_lt f0.lt
        have n1g := Nat.ne_of_lt go.lt
        have l1 := Nat.le_of_lt f0.lt
        have c1 := hc.size
        have f0 := f0.alloc (.cells (arr .u32 256 (fun _ => 0)) 23)
        have go := go.alloc (.cells (arr .u32 256 (fun _ => 0)) 23)
        have k1 := Blk.new (Wd) .u32 256 (fun _ => 0) 23 rfl
        have hB := hB.alloc hB.size (.cells (arr .u32 256 (fun _ => 0)) 23)
        have hc := Below.alloc hc hc.size (.cells (arr .u32 256 (fun _ => 0)) 23)
        refine ⟨hc, ?_⟩
        refine wpAnyH_all (rs := [1, 5]) (by kernel_rfl) (by decide) ?_
        intro i hi
        rcases mem2 hi with rfl | rfl
        · refine wpOp_call _ rfl rfl 11 _ _ rfl (by kernel_rfl) #[(.agg (arr .u32 256 x))] (by simp only [List.map_toArray, List.map_cons, List.map_nil]; rfl) ?_
          refine (implToNTT x _ QX.out (HG.out.below hB)).mono ?_
          rintro e wc1 ⟨rfl, hb⟩
          have f0 := f0.below hb
          have go := go.below hb
          have k1 := k1.below hb
          have hB := belowChain hB hb hB.size
          have hc := Below.trans hc (hb.mono hc.size)
          clear hb
          refine ⟨_, rfl, hc, ?_⟩
          refine wpAnyH_all (rs := [3, 5]) (by kernel_rfl) (by decide) ?_
          intro i hi
          rcases mem2 hi with rfl | rfl
          · refine wpOp_call _ rfl rfl 13 _ _ rfl (by kernel_rfl) #[(.agg (arr .u32 256 x))] (by simp only [List.map_toArray, List.map_cons, List.map_nil]; rfl) ?_
            refine (implFromNTT x _ QX.out (HG.out.below hB)).mono ?_
            rintro e wc2 ⟨rfl, hb⟩
            have f0 := f0.below hb
            have go := go.below hb
            have k1 := k1.below hb
            have hB := belowChain hB hb hB.size
            have hc := Below.trans hc (hb.mono hc.size)
            clear hb
            refine ⟨_, rfl, hc, ?_⟩
            refine wpAnyH_all (rs := [5]) (by kernel_rfl) (by decide) ?_
            intro i hi
            obtain rfl := mem1 hi
            refine wpOp_alloc _ rfl rfl 23 rfl zU ?_
            have n2f := Nat.ne_of_lt f0.lt
            have n2g := Nat.ne_of_lt go.lt
            have l2 := Nat.le_of_lt f0.lt
            have c2 := hc.size
            have n12 := Nat.ne_of_lt k1.lt
            have f0 := f0.alloc (.cells (arr .u32 256 (fun _ => 0)) 23)
            have go := go.alloc (.cells (arr .u32 256 (fun _ => 0)) 23)
            have k1 := k1.alloc (.cells (arr .u32 256 (fun _ => 0)) 23)
            have k2 := Blk.new (wc2) .u32 256 (fun _ => 0) 23 rfl
            have hB := hB.alloc hB.size (.cells (arr .u32 256 (fun _ => 0)) 23)
            have hc := Below.alloc hc hc.size (.cells (arr .u32 256 (fun _ => 0)) 23)
            refine ⟨hc, ?_⟩
            refine wpAnyH_all (rs := [6]) (by kernel_rfl) (by decide) ?_
            intro i hi
            obtain rfl := mem1 hi
            refine wpOp_store_arr _ rfl rfl iU _ _ rfl _ rfl rfl k1 ?_
            have f0 := f0.rowOther _ (arr .u32 256 (nttF x)) n1f
            have go := go.rowOther _ (arr .u32 256 (nttF x)) n1g
            have k2 := k2.rowOther _ (arr .u32 256 (nttF x)) n12.symm
            have k1 := k1.row .u32 (nttF x)
            have hB := below_setRow hB l1 (arr .u32 256 (nttF x))
            have hc := below_setRow hc c1 (arr .u32 256 (nttF x))
            refine ⟨hc, ?_⟩
            refine wpAnyH_all (rs := [7]) (by kernel_rfl) (by decide) ?_
            intro i hi
            obtain rfl := mem1 hi
            refine wpOp_store_arr _ rfl rfl iU _ _ rfl _ rfl rfl k2 ?_
            have f0 := f0.rowOther _ (arr .u32 256 (invF x)) n2f
            have go := go.rowOther _ (arr .u32 256 (invF x)) n2g
            have k1 := k1.rowOther _ (arr .u32 256 (invF x)) n12
            have k2 := k2.row .u32 (invF x)
            have hB := below_setRow hB l2 (arr .u32 256 (invF x))
            have hc := below_setRow hc c2 (arr .u32 256 (invF x))
            refine ⟨hc, ?_⟩
            refine wpAnyH_done (by kernel_rfl) ⟨rfl, _, _, hB, f0, go, k1, k2, rfl⟩ _
          · refine wpOp_alloc _ rfl rfl 23 rfl zU ?_
            have n2f := Nat.ne_of_lt f0.lt
            have n2g := Nat.ne_of_lt go.lt
            have l2 := Nat.le_of_lt f0.lt
            have c2 := hc.size
            have n12 := Nat.ne_of_lt k1.lt
            have f0 := f0.alloc (.cells (arr .u32 256 (fun _ => 0)) 23)
            have go := go.alloc (.cells (arr .u32 256 (fun _ => 0)) 23)
            have k1 := k1.alloc (.cells (arr .u32 256 (fun _ => 0)) 23)
            have k2 := Blk.new (wc1) .u32 256 (fun _ => 0) 23 rfl
            have hB := hB.alloc hB.size (.cells (arr .u32 256 (fun _ => 0)) 23)
            have hc := Below.alloc hc hc.size (.cells (arr .u32 256 (fun _ => 0)) 23)
            refine ⟨hc, ?_⟩
            refine wpAnyH_all (rs := [3]) (by kernel_rfl) (by decide) ?_
            intro i hi
            obtain rfl := mem1 hi
            refine wpOp_call _ rfl rfl 13 _ _ rfl (by kernel_rfl) #[(.agg (arr .u32 256 x))] (by simp only [List.map_toArray, List.map_cons, List.map_nil]; rfl) ?_
            refine (implFromNTT x _ QX.out (HG.out.below hB)).mono ?_
            rintro e wc3 ⟨rfl, hb⟩
            have f0 := f0.below hb
            have go := go.below hb
            have k1 := k1.below hb
            have k2 := k2.below hb
            have hB := belowChain hB hb hB.size
            have hc := Below.trans hc (hb.mono hc.size)
            clear hb
            refine ⟨_, rfl, hc, ?_⟩
            refine wpAnyH_all (rs := [6]) (by kernel_rfl) (by decide) ?_
            intro i hi
            obtain rfl := mem1 hi
            refine wpOp_store_arr _ rfl rfl iU _ _ rfl _ rfl rfl k1 ?_
            have f0 := f0.rowOther _ (arr .u32 256 (nttF x)) n1f
            have go := go.rowOther _ (arr .u32 256 (nttF x)) n1g
            have k2 := k2.rowOther _ (arr .u32 256 (nttF x)) n12.symm
            have k1 := k1.row .u32 (nttF x)
            have hB := below_setRow hB l1 (arr .u32 256 (nttF x))
            have hc := below_setRow hc c1 (arr .u32 256 (nttF x))
            refine ⟨hc, ?_⟩
            refine wpAnyH_all (rs := [7]) (by kernel_rfl) (by decide) ?_
            intro i hi
            obtain rfl := mem1 hi
            refine wpOp_store_arr _ rfl rfl iU _ _ rfl _ rfl rfl k2 ?_
            have f0 := f0.rowOther _ (arr .u32 256 (invF x)) n2f
            have go := go.rowOther _ (arr .u32 256 (invF x)) n2g
            have k1 := k1.rowOther _ (arr .u32 256 (invF x)) n12
            have k2 := k2.row .u32 (invF x)
            have hB := below_setRow hB l2 (arr .u32 256 (invF x))
            have hc := below_setRow hc c2 (arr .u32 256 (invF x))
            refine ⟨hc, ?_⟩
            refine wpAnyH_done (by kernel_rfl) ⟨rfl, _, _, hB, f0, go, k1, k2, rfl⟩ _
        · refine wpOp_alloc _ rfl rfl 23 rfl zU ?_
          have n2f := Nat.ne_of_lt f0.lt
          have n2g := Nat.ne_of_lt go.lt
          have l2 := Nat.le_of_lt f0.lt
          have c2 := hc.size
          have n12 := Nat.ne_of_lt k1.lt
          have f0 := f0.alloc (.cells (arr .u32 256 (fun _ => 0)) 23)
          have go := go.alloc (.cells (arr .u32 256 (fun _ => 0)) 23)
          have k1 := k1.alloc (.cells (arr .u32 256 (fun _ => 0)) 23)
          have k2 := Blk.new ((Wd).alloc (.cells (arr .u32 256 (fun _ => 0)) 23)) .u32 256 (fun _ => 0) 23 rfl
          have hB := hB.alloc hB.size (.cells (arr .u32 256 (fun _ => 0)) 23)
          have hc := Below.alloc hc hc.size (.cells (arr .u32 256 (fun _ => 0)) 23)
          refine ⟨hc, ?_⟩
          refine wpAnyH_all (rs := [1]) (by kernel_rfl) (by decide) ?_
          intro i hi
          obtain rfl := mem1 hi
          refine wpOp_call _ rfl rfl 11 _ _ rfl (by kernel_rfl) #[(.agg (arr .u32 256 x))] (by simp only [List.map_toArray, List.map_cons, List.map_nil]; rfl) ?_
          refine (implToNTT x _ QX.out (HG.out.below hB)).mono ?_
          rintro e wc2 ⟨rfl, hb⟩
          have f0 := f0.below hb
          have go := go.below hb
          have k1 := k1.below hb
          have k2 := k2.below hb
          have hB := belowChain hB hb hB.size
          have hc := Below.trans hc (hb.mono hc.size)
          clear hb
          refine ⟨_, rfl, hc, ?_⟩
          refine wpAnyH_all (rs := [3]) (by kernel_rfl) (by decide) ?_
          intro i hi
          obtain rfl := mem1 hi
          refine wpOp_call _ rfl rfl 13 _ _ rfl (by kernel_rfl) #[(.agg (arr .u32 256 x))] (by simp only [List.map_toArray, List.map_cons, List.map_nil]; rfl) ?_
          refine (implFromNTT x _ QX.out (HG.out.below hB)).mono ?_
          rintro e wc3 ⟨rfl, hb⟩
          have f0 := f0.below hb
          have go := go.below hb
          have k1 := k1.below hb
          have k2 := k2.below hb
          have hB := belowChain hB hb hB.size
          have hc := Below.trans hc (hb.mono hc.size)
          clear hb
          refine ⟨_, rfl, hc, ?_⟩
          refine wpAnyH_all (rs := [6]) (by kernel_rfl) (by decide) ?_
          intro i hi
          obtain rfl := mem1 hi
          refine wpOp_store_arr _ rfl rfl iU _ _ rfl _ rfl rfl k1 ?_
          have f0 := f0.rowOther _ (arr .u32 256 (nttF x)) n1f
          have go := go.rowOther _ (arr .u32 256 (nttF x)) n1g
          have k2 := k2.rowOther _ (arr .u32 256 (nttF x)) n12.symm
          have k1 := k1.row .u32 (nttF x)
          have hB := below_setRow hB l1 (arr .u32 256 (nttF x))
          have hc := below_setRow hc c1 (arr .u32 256 (nttF x))
          refine ⟨hc, ?_⟩
          refine wpAnyH_all (rs := [7]) (by kernel_rfl) (by decide) ?_
          intro i hi
          obtain rfl := mem1 hi
          refine wpOp_store_arr _ rfl rfl iU _ _ rfl _ rfl rfl k2 ?_
          have f0 := f0.rowOther _ (arr .u32 256 (invF x)) n2f
          have go := go.rowOther _ (arr .u32 256 (invF x)) n2g
          have k1 := k1.rowOther _ (arr .u32 256 (invF x)) n12
          have k2 := k2.row .u32 (invF x)
          have hB := below_setRow hB l2 (arr .u32 256 (invF x))
          have hc := below_setRow hc c2 (arr .u32 256 (invF x))
          refine ⟨hc, ?_⟩
          refine wpAnyH_done (by kernel_rfl) ⟨rfl, _, _, hB, f0, go, k1, k2, rfl⟩ _
      · refine wpOp_alloc _ rfl rfl 23 rfl zU ?_
        have n2f := Nat.ne_of_lt f0.lt
        have n2g := Nat.ne_of_lt go.lt
        have l2 := Nat.le_of_lt f0.lt
        have c2 := hc.size
        have f0 := f0.alloc (.cells (arr .u32 256 (fun _ => 0)) 23)
        have go := go.alloc (.cells (arr .u32 256 (fun _ => 0)) 23)
        have k2 := Blk.new (Wd) .u32 256 (fun _ => 0) 23 rfl
        have hB := hB.alloc hB.size (.cells (arr .u32 256 (fun _ => 0)) 23)
        have hc := Below.alloc hc hc.size (.cells (arr .u32 256 (fun _ => 0)) 23)
        refine ⟨hc, ?_⟩
        refine wpAnyH_all (rs := [1, 4]) (by kernel_rfl) (by decide) ?_
        intro i hi
        rcases mem2 hi with rfl | rfl
        · refine wpOp_call _ rfl rfl 11 _ _ rfl (by kernel_rfl) #[(.agg (arr .u32 256 x))] (by simp only [List.map_toArray, List.map_cons, List.map_nil]; rfl) ?_
          refine (implToNTT x _ QX.out (HG.out.below hB)).mono ?_
          rintro e wc1 ⟨rfl, hb⟩
          have f0 := f0.below hb
          have go := go.below hb
          have k2 := k2.below hb
          have hB := belowChain hB hb hB.size
          have hc := Below.trans hc (hb.mono hc.size)
          clear hb
          refine ⟨_, rfl, hc, ?_⟩
          refine wpAnyH_all (rs := [3, 4]) (by kernel_rfl) (by decide) ?_
          intro i hi
          rcases mem2 hi with rfl | rfl
          · refine wpOp_call _ rfl rfl 13 _ _ rfl (by kernel_rfl) #[(.agg (arr .u32 256 x))] (by simp only [List.map_toArray, List.map_cons, List.map_nil]; rfl) ?_
            refine (implFromNTT x _ QX.out (HG.out.below hB)).mono ?_
            rintro e wc2 ⟨rfl, hb⟩
            have f0 := f0.below hb
            have go := go.below hb
            have k2 := k2.below hb
            have hB := belowChain hB hb hB.size
            have hc := Below.trans hc (hb.mono hc.size)
            clear hb
            refine ⟨_, rfl, hc, ?_⟩
            refine wpAnyH_all (rs := [4]) (by kernel_rfl) (by decide) ?_
            intro i hi
            obtain rfl := mem1 hi
            refine wpOp_alloc _ rfl rfl 23 rfl zU ?_
            have n1f := Nat.ne_of_lt f0.lt
            have n1g := Nat.ne_of_lt go.lt
            have l1 := Nat.le_of_lt f0.lt
            have c1 := hc.size
            have n12 := Nat.ne_of_lt k2.lt
            have f0 := f0.alloc (.cells (arr .u32 256 (fun _ => 0)) 23)
            have go := go.alloc (.cells (arr .u32 256 (fun _ => 0)) 23)
            have k2 := k2.alloc (.cells (arr .u32 256 (fun _ => 0)) 23)
            have k1 := Blk.new (wc2) .u32 256 (fun _ => 0) 23 rfl
            have hB := hB.alloc hB.size (.cells (arr .u32 256 (fun _ => 0)) 23)
            have hc := Below.alloc hc hc.size (.cells (arr .u32 256 (fun _ => 0)) 23)
            refine ⟨hc, ?_⟩
            refine wpAnyH_all (rs := [6]) (by kernel_rfl) (by decide) ?_
            intro i hi
            obtain rfl := mem1 hi
            refine wpOp_store_arr _ rfl rfl iU _ _ rfl _ rfl rfl k1 ?_
            have f0 := f0.rowOther _ (arr .u32 256 (nttF x)) n1f
            have go := go.rowOther _ (arr .u32 256 (nttF x)) n1g
            have k2 := k2.rowOther _ (arr .u32 256 (nttF x)) n12
            have k1 := k1.row .u32 (nttF x)
            have hB := below_setRow hB l1 (arr .u32 256 (nttF x))
            have hc := below_setRow hc c1 (arr .u32 256 (nttF x))
            refine ⟨hc, ?_⟩
            refine wpAnyH_all (rs := [7]) (by kernel_rfl) (by decide) ?_
            intro i hi
            obtain rfl := mem1 hi
            refine wpOp_store_arr _ rfl rfl iU _ _ rfl _ rfl rfl k2 ?_
            have f0 := f0.rowOther _ (arr .u32 256 (invF x)) n2f
            have go := go.rowOther _ (arr .u32 256 (invF x)) n2g
            have k1 := k1.rowOther _ (arr .u32 256 (invF x)) n12.symm
            have k2 := k2.row .u32 (invF x)
            have hB := below_setRow hB l2 (arr .u32 256 (invF x))
            have hc := below_setRow hc c2 (arr .u32 256 (invF x))
            refine ⟨hc, ?_⟩
            refine wpAnyH_done (by kernel_rfl) ⟨rfl, _, _, hB, f0, go, k1, k2, rfl⟩ _
          · refine wpOp_alloc _ rfl rfl 23 rfl zU ?_
            have n1f := Nat.ne_of_lt f0.lt
            have n1g := Nat.ne_of_lt go.lt
            have l1 := Nat.le_of_lt f0.lt
            have c1 := hc.size
            have n12 := Nat.ne_of_lt k2.lt
            have f0 := f0.alloc (.cells (arr .u32 256 (fun _ => 0)) 23)
            have go := go.alloc (.cells (arr .u32 256 (fun _ => 0)) 23)
            have k2 := k2.alloc (.cells (arr .u32 256 (fun _ => 0)) 23)
            have k1 := Blk.new (wc1) .u32 256 (fun _ => 0) 23 rfl
            have hB := hB.alloc hB.size (.cells (arr .u32 256 (fun _ => 0)) 23)
            have hc := Below.alloc hc hc.size (.cells (arr .u32 256 (fun _ => 0)) 23)
            refine ⟨hc, ?_⟩
            refine wpAnyH_all (rs := [3]) (by kernel_rfl) (by decide) ?_
            intro i hi
            obtain rfl := mem1 hi
            refine wpOp_call _ rfl rfl 13 _ _ rfl (by kernel_rfl) #[(.agg (arr .u32 256 x))] (by simp only [List.map_toArray, List.map_cons, List.map_nil]; rfl) ?_
            refine (implFromNTT x _ QX.out (HG.out.below hB)).mono ?_
            rintro e wc3 ⟨rfl, hb⟩
            have f0 := f0.below hb
            have go := go.below hb
            have k1 := k1.below hb
            have k2 := k2.below hb
            have hB := belowChain hB hb hB.size
            have hc := Below.trans hc (hb.mono hc.size)
            clear hb
            refine ⟨_, rfl, hc, ?_⟩
            refine wpAnyH_all (rs := [6]) (by kernel_rfl) (by decide) ?_
            intro i hi
            obtain rfl := mem1 hi
            refine wpOp_store_arr _ rfl rfl iU _ _ rfl _ rfl rfl k1 ?_
            have f0 := f0.rowOther _ (arr .u32 256 (nttF x)) n1f
            have go := go.rowOther _ (arr .u32 256 (nttF x)) n1g
            have k2 := k2.rowOther _ (arr .u32 256 (nttF x)) n12
            have k1 := k1.row .u32 (nttF x)
            have hB := below_setRow hB l1 (arr .u32 256 (nttF x))
            have hc := below_setRow hc c1 (arr .u32 256 (nttF x))
            refine ⟨hc, ?_⟩
            refine wpAnyH_all (rs := [7]) (by kernel_rfl) (by decide) ?_
            intro i hi
            obtain rfl := mem1 hi
            refine wpOp_store_arr _ rfl rfl iU _ _ rfl _ rfl rfl k2 ?_
            have f0 := f0.rowOther _ (arr .u32 256 (invF x)) n2f
            have go := go.rowOther _ (arr .u32 256 (invF x)) n2g
            have k1 := k1.rowOther _ (arr .u32 256 (invF x)) n12.symm
            have k2 := k2.row .u32 (invF x)
            have hB := below_setRow hB l2 (arr .u32 256 (invF x))
            have hc := below_setRow hc c2 (arr .u32 256 (invF x))
            refine ⟨hc, ?_⟩
            refine wpAnyH_done (by kernel_rfl) ⟨rfl, _, _, hB, f0, go, k1, k2, rfl⟩ _
        · refine wpOp_alloc _ rfl rfl 23 rfl zU ?_
          have n1f := Nat.ne_of_lt f0.lt
          have n1g := Nat.ne_of_lt go.lt
          have l1 := Nat.le_of_lt f0.lt
          have c1 := hc.size
          have n12 := Nat.ne_of_lt k2.lt
          have f0 := f0.alloc (.cells (arr .u32 256 (fun _ => 0)) 23)
          have go := go.alloc (.cells (arr .u32 256 (fun _ => 0)) 23)
          have k2 := k2.alloc (.cells (arr .u32 256 (fun _ => 0)) 23)
          have k1 := Blk.new ((Wd).alloc (.cells (arr .u32 256 (fun _ => 0)) 23)) .u32 256 (fun _ => 0) 23 rfl
          have hB := hB.alloc hB.size (.cells (arr .u32 256 (fun _ => 0)) 23)
          have hc := Below.alloc hc hc.size (.cells (arr .u32 256 (fun _ => 0)) 23)
          refine ⟨hc, ?_⟩
          refine wpAnyH_all (rs := [1]) (by kernel_rfl) (by decide) ?_
          intro i hi
          obtain rfl := mem1 hi
          refine wpOp_call _ rfl rfl 11 _ _ rfl (by kernel_rfl) #[(.agg (arr .u32 256 x))] (by simp only [List.map_toArray, List.map_cons, List.map_nil]; rfl) ?_
          refine (implToNTT x _ QX.out (HG.out.below hB)).mono ?_
          rintro e wc2 ⟨rfl, hb⟩
          have f0 := f0.below hb
          have go := go.below hb
          have k1 := k1.below hb
          have k2 := k2.below hb
          have hB := belowChain hB hb hB.size
          have hc := Below.trans hc (hb.mono hc.size)
          clear hb
          refine ⟨_, rfl, hc, ?_⟩
          refine wpAnyH_all (rs := [3]) (by kernel_rfl) (by decide) ?_
          intro i hi
          obtain rfl := mem1 hi
          refine wpOp_call _ rfl rfl 13 _ _ rfl (by kernel_rfl) #[(.agg (arr .u32 256 x))] (by simp only [List.map_toArray, List.map_cons, List.map_nil]; rfl) ?_
          refine (implFromNTT x _ QX.out (HG.out.below hB)).mono ?_
          rintro e wc3 ⟨rfl, hb⟩
          have f0 := f0.below hb
          have go := go.below hb
          have k1 := k1.below hb
          have k2 := k2.below hb
          have hB := belowChain hB hb hB.size
          have hc := Below.trans hc (hb.mono hc.size)
          clear hb
          refine ⟨_, rfl, hc, ?_⟩
          refine wpAnyH_all (rs := [6]) (by kernel_rfl) (by decide) ?_
          intro i hi
          obtain rfl := mem1 hi
          refine wpOp_store_arr _ rfl rfl iU _ _ rfl _ rfl rfl k1 ?_
          have f0 := f0.rowOther _ (arr .u32 256 (nttF x)) n1f
          have go := go.rowOther _ (arr .u32 256 (nttF x)) n1g
          have k2 := k2.rowOther _ (arr .u32 256 (nttF x)) n12
          have k1 := k1.row .u32 (nttF x)
          have hB := below_setRow hB l1 (arr .u32 256 (nttF x))
          have hc := below_setRow hc c1 (arr .u32 256 (nttF x))
          refine ⟨hc, ?_⟩
          refine wpAnyH_all (rs := [7]) (by kernel_rfl) (by decide) ?_
          intro i hi
          obtain rfl := mem1 hi
          refine wpOp_store_arr _ rfl rfl iU _ _ rfl _ rfl rfl k2 ?_
          have f0 := f0.rowOther _ (arr .u32 256 (invF x)) n2f
          have go := go.rowOther _ (arr .u32 256 (invF x)) n2g
          have k1 := k1.rowOther _ (arr .u32 256 (invF x)) n12.symm
          have k2 := k2.row .u32 (invF x)
          have hB := below_setRow hB l2 (arr .u32 256 (invF x))
          have hc := below_setRow hc c2 (arr .u32 256 (invF x))
          refine ⟨hc, ?_⟩
          refine wpAnyH_done (by kernel_rfl) ⟨rfl, _, _, hB, f0, go, k1, k2, rfl⟩ _
    · rintro a' w3 ⟨g1, g2, hB, f0, go, k1, k2, rfl⟩
      simp only [Act.put, List.setIfInBounds_toArray, List.set_cons_zero, List.set_cons_succ]
      go_wp2_with fail
      refine wp_region_below (by kernel_rfl) (by kernel_rfl) ?_
      (first | go_big_quiet_skip | (go_big_quiet_want; go_big_quiet_op; first | go_big_quiet_on | (apply Exists.intro; refine ⟨fun _ _ => rfl, ?_⟩; go_big_quiet_on)))
      (refine BigFrame.wpQuiet_want rfl (fun K hK => ?_); refine quiet_load_int 22 _ rfl _ 0 rfl .u32 (1) Tryd.isAgg22 (fun w' hw' => (Blk.below (go) hw').cellv 0 _ (by omega) (e1_val 0 (by omega))) (hK _ ?_); clear hK K; simp only [Act.put, List.setIfInBounds_toArray, List.set_cons_zero, List.set_cons_succ])
      (first | go_big_quiet_skip | (go_big_quiet_want; go_big_quiet_op; first | go_big_quiet_on | (apply Exists.intro; refine ⟨fun _ _ => rfl, ?_⟩; go_big_quiet_on)))
      (first | go_big_quiet_skip | (go_big_quiet_want; go_big_quiet_op; first | go_big_quiet_on | (apply Exists.intro; refine ⟨fun _ _ => rfl, ?_⟩; go_big_quiet_on)))
      (first | go_big_quiet_skip | (go_big_quiet_want; go_big_quiet_op; first | go_big_quiet_on | (apply Exists.intro; refine ⟨fun _ _ => rfl, ?_⟩; go_big_quiet_on)))
      (refine BigFrame.wpQuiet_want rfl (fun K hK => ?_); refine quiet_load_int 22 _ rfl _ 255 rfl .u32 (1) Tryd.isAgg22 (fun w' hw' => (Blk.below (go) hw').cellv 255 _ (by omega) (e1_val 255 (by omega))) (hK _ ?_); clear hK K; simp only [Act.put, List.setIfInBounds_toArray, List.set_cons_zero, List.set_cons_succ])
      (first | go_big_quiet_skip | (go_big_quiet_want; go_big_quiet_op; first | go_big_quiet_on | (apply Exists.intro; refine ⟨fun _ _ => rfl, ?_⟩; go_big_quiet_on)))
      (first | go_big_quiet_skip | (go_big_quiet_want; go_big_quiet_op; first | go_big_quiet_on | (apply Exists.intro; refine ⟨fun _ _ => rfl, ?_⟩; go_big_quiet_on)))
      (first | go_big_quiet_skip | (go_big_quiet_want; go_big_quiet_op; first | go_big_quiet_on | (apply Exists.intro; refine ⟨fun _ _ => rfl, ?_⟩; go_big_quiet_on)))
      (first | go_big_quiet_skip | (go_big_quiet_want; go_big_quiet_op; first | go_big_quiet_on | (apply Exists.intro; refine ⟨fun _ _ => rfl, ?_⟩; go_big_quiet_on)))
      go_big_quiet_step ((intro hw'; go_at_call 15; exact Calls.in_same hw' (lwRedT _ (nttF x) _ _ (Blk.below (k1) hw') (fun i _ => nttF_bd x i))))
      (first | go_big_quiet_skip | (go_big_quiet_want; go_big_quiet_op; first | go_big_quiet_on | (apply Exists.intro; refine ⟨fun _ _ => rfl, ?_⟩; go_big_quiet_on)))
      (first | go_big_quiet_skip | (go_big_quiet_want; go_big_quiet_op; first | go_big_quiet_on | (apply Exists.intro; refine ⟨fun _ _ => rfl, ?_⟩; go_big_quiet_on)))
      (first | go_big_quiet_skip | (go_big_quiet_want; go_big_quiet_op; first | go_big_quiet_on | (apply Exists.intro; refine ⟨fun _ _ => rfl, ?_⟩; go_big_quiet_on)))
      go_big_quiet_step ((intro hw'; go_at_call 15; exact Calls.in_same hw' (lwRedT _ (invF x) _ _ (Blk.below (k2) hw') (fun i _ => invF_bd x i))))
      (first | go_big_quiet_skip | (go_big_quiet_want; go_big_quiet_op; first | go_big_quiet_on | (apply Exists.intro; refine ⟨fun _ _ => rfl, ?_⟩; go_big_quiet_on)))
      (first | go_big_quiet_skip | (go_big_quiet_want; go_big_quiet_op; first | go_big_quiet_on | (apply Exists.intro; refine ⟨fun _ _ => rfl, ?_⟩; go_big_quiet_on)))
      (refine BigFrame.wpQuiet_want rfl (fun K hK => ?_); refine quiet_load_arr Tryd.underlying23 iU _ rfl _ rfl (fun w' hw' => Blk.below (k1) hw') (hK _ ?_); clear hK K; simp only [Act.put, List.setIfInBounds_toArray, List.set_cons_zero, List.set_cons_succ])
      go_big_quiet_step ((intro hw'; go_at_call 13; exact Calls.in_below hw' (implFromNTT (nttF x) _ (fun i _ => nttF_bd x i) ((HG.out.below hB).below hw'))))
      (refine BigFrame.wpQuiet_want rfl (fun K hK => ?_); refine quiet_load_arr Tryd.underlying23 iU _ rfl _ rfl (fun w' hw' => Blk.below (f0) hw') (hK _ ?_); clear hK K; simp only [Act.put, List.setIfInBounds_toArray, List.set_cons_zero, List.set_cons_succ])
      (refine BigFrame.wpQuiet_want rfl (fun K hK => ?_); refine quiet_eql_arr Tryd.underlying23 Tryd.underlying22 Tryd.sizeOf22 Tryd.isAgg22 Tryd.eqGuardType23 _ _ _ rfl rfl rfl (fun i hi => back_there x QX.out i hi) (hK _ ?_); clear hK K; simp only [Act.put, List.setIfInBounds_toArray, List.set_cons_zero, List.set_cons_succ])
      (first | go_big_quiet_skip | (go_big_quiet_want; go_big_quiet_op; first | go_big_quiet_on | (apply Exists.intro; refine ⟨fun _ _ => rfl, ?_⟩; go_big_quiet_on)))
      (first | go_big_quiet_skip | (go_big_quiet_want; go_big_quiet_op; first | go_big_quiet_on | (apply Exists.intro; refine ⟨fun _ _ => rfl, ?_⟩; go_big_quiet_on)))
      (refine BigFrame.wpQuiet_want rfl (fun K hK => ?_); refine quiet_load_arr Tryd.underlying23 iU _ rfl _ rfl (fun w' hw' => Blk.below (k2) hw') (hK _ ?_); clear hK K; simp only [Act.put, List.setIfInBounds_toArray, List.set_cons_zero, List.set_cons_succ])
      go_big_quiet_step ((intro hw'; go_at_call 11; exact Calls.in_below hw' (implToNTT (invF x) _ (fun i _ => invF_bd x i) ((HG.out.below hB).below hw'))))
      (refine BigFrame.wpQuiet_want rfl (fun K hK => ?_); refine quiet_load_arr Tryd.underlying23 iU _ rfl _ rfl (fun w' hw' => Blk.below (f0) hw') (hK _ ?_); clear hK K; simp only [Act.put, List.setIfInBounds_toArray, List.set_cons_zero, List.set_cons_succ])
      (refine BigFrame.wpQuiet_want rfl (fun K hK => ?_); refine quiet_eql_arr Tryd.underlying23 Tryd.underlying22 Tryd.sizeOf22 Tryd.isAgg22 Tryd.eqGuardType23 _ _ _ rfl rfl rfl (fun i hi => there_back x QX.out i hi) (hK _ ?_); clear hK K; simp only [Act.put, List.setIfInBounds_toArray, List.set_cons_zero, List.set_cons_succ])
      (first | go_big_quiet_skip | (go_big_quiet_want; go_big_quiet_op; first | go_big_quiet_on | (apply Exists.intro; refine ⟨fun _ _ => rfl, ?_⟩; go_big_quiet_on)))
      (first | go_big_quiet_skip | (go_big_quiet_want; go_big_quiet_op; first | go_big_quiet_on | (apply Exists.intro; refine ⟨fun _ _ => rfl, ?_⟩; go_big_quiet_on)))
      refine wpQuiet_nil ?_
      intro w2 hb2
      go_wp2_with fail
      go_ret
      exact ⟨rfl, belowChain hB hb2 hB.size⟩

end Go.Proofs.YtpfabgmoadljnaaDoor
