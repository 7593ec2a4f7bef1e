/-
  A signature there and back: the law.
-/
import Derived.Test.YtanfpnidlgejhaaDoorSigN
namespace Go.Proofs.YtanfpnidlgejhaaDoor
open Go.RowKit

set_option maxRecDepth 100000 in
set_option maxHeartbeats 2000000 in
theorem walkFnSigBack (n : Int) (a : Option Addr) (len cap : Nat) (zs : List Int) (w : World) (hp : Par w) (_he3 : GErr w 3) (he4 : GErr w 4) (he5 : GErr w 5) (he6 : GErr w 6) (n0 : 0 ≤ n) (n1 : n < 256) (h : IsRow .u8 w a len cap zs) :
    Calls Tryd.prog 5 #[.int .u8 n, .slice a len cap] w fun e w' => e = .returned (.bool true) ∧ Below w.heap.size w w' := by
  obtain ⟨s, hs⟩ : ∃ s : Nat, (s : Int) = n % 3 := ⟨(n % 3).toNat, by omega⟩
  have hs3 : s < 3 := by omega
  obtain ⟨hk0, hk1⟩ := kk_bd s hs3
  obtain ⟨hl0, hl1⟩ := ll_bd s hs3
  obtain ⟨hc0, hc1⟩ := cc_bd s hs3
  obtain ⟨ho0, ho1⟩ := om_bd s hs3
  obtain ⟨hd0, hd1⟩ := dd_bd s hs3
  have hsb := sgz_bd s hs3
  have hgm : 2 * ss s 4 - 1 = (blN s : Int) := by
    have h3 : s = 0 ∨ s = 1 ∨ s = 2 := by omega
    rcases h3 with rfl | rfl | rfl <;> rfl
  have hgb : 1 ≤ ss s 4 ∧ ss s 4 ≤ 524288 := by
    have h3 : s = 0 ∨ s = 1 ∨ s = 2 := by omega
    rcases h3 with rfl | rfl | rfl <;> decide
  obtain ⟨hg0, hg1⟩ := hgb
  have hse : cc s ≤ sgz s := by unfold sgz mm; omega
  clear hgm hg0 hg1
  by_cases hq1 : 2147483647 < len
  · go_enter Tryd.func5, Tryd.ntmps5
    go_wp2_with fail
    go_ret
    exact ⟨rfl, Below.refl _ _⟩
  go_enter Tryd.func5, Tryd.ntmps5
  go_wp2_with fail
  refine (lwSet _ s _ n0 n1 hs).mono ?_
  rintro e w1 ⟨rfl, hb1⟩
  clear hs
  have fs := (Blk.zeros8 w1 24 rfl).row .i64 (ss s)
  have hB2 := below_setRow (hb1.alloc hb1.size (.cells #[.int .i64 0, .int .i64 0, .int .i64 0, .int .i64 0, .int .i64 0, .int .i64 0, .int .i64 0, .int .i64 0] 24)) (g := w1.heap.size) hb1.size (arr .i64 8 (ss s))
  clear hb1
  go_wp2_with (first | (with_reducible refine at_store 24 _ _ rfl ?_; refine wpList_store_arr iSet rfl _ _ rfl _ rfl rfl (Blk.zeros8 _ _ rfl) ?_) | (with_reducible refine at_load 24 _ rfl ?_; refine wpList_load_s Tryd.underlying24 rfl iSet rfl _ rfl _ rfl (fs) ?_))
  refine (spSigSize s _ hs3).mono ?_
  rintro e w3 ⟨rfl, hb3⟩
  have fs := fs.below hb3
  have hB3 := belowChain hB2 hb3 hB2.size
  clear hB2 hb3
  by_cases hl : len = sgz s
  · subst hl
    obtain ⟨x, rfl, hr, hb⟩ := rd_of_row h (by omega)
    have hcap : sgz s ≤ cap := by
      rcases h with ⟨_, h0, _⟩ | ⟨x, _, hl, _⟩
      · omega
      · exact hl
    obtain ⟨b, hbv⟩ : ∃ b : Nat → Int, b = fun j => zs.getD j 0 := ⟨_, rfl⟩
    rw [← hbv] at hr
    replace hb : ∀ i, i < sgz s → 0 ≤ b i ∧ b i < 256 := fun i hi => by rw [hbv]; exact hb i hi
    clear hbv h
    have HB := Lib.hid hb; clear hb
    have HR := Lib.hid hr; clear hr
    have hne : (((sgz s : Nat) : Int) != ((sgz s : Nat) : Int)) = false := by simp
    have hm0 : mm s + (om s + kk s) ≤ sgz s := Nat.le_refl _
    have hm1 : sgz s ≤ mm s + (om s + kk s) := Nat.le_refl _
    have HRH : Hid (Rd .u8 w (x.add (mm s)) (om s + kk s) (hby s b)) := Lib.hid (Rd.sub1 HR.out (o := mm s) (m := om s + kk s) (by omega))
    go_wp2_with fail
    refine (implSigDecode s cap x b _ hs3 (hp.below hB3) (he4.below hB3) (he5.below hB3) (he6.below hB3) (HR.out.below hB3) HB.out).mono ?_
    rintro e w4 ⟨hd, hb4⟩
    have hB4 := belowChain hB3 hb4 hB3.size
    have fs := fs.below hb4
    clear hB3 hb4 hne
    have hM : ((sgz s : Nat) : Int) - ((om s : Nat) : Int) - ((kk s : Nat) : Int) = ((mm s : Nat) : Int) := by omega
    rcases hd with ⟨hok, g, c, gz, cz, gh, rfl, hrd, hmz, hbt⟩ | ⟨hok, v1, v2, v3, rfl⟩
    · go_wp2_with fail
      try simp only [Act.put]
      refine wp_region_viaA (fun A a' w' => ∃ gu : Nat, Below w4.heap.size w4 w' ∧ a' = (((((((((((((((((A.put (some 35) (.agg (arr .i64 8 (ss s)))).put (some 36) (.slice (some x) (sgz s) cap)).put (some 37) (.slice (some x) (sgz s) cap)).put (some 39) (.pointer (some ⟨w1.heap.size, 6, none⟩))).put (some 40) (.int .i64 (om s : Int))).put (some 42) (.pointer (some ⟨w1.heap.size, 0, none⟩))).put (some 43) (.int .i64 (kk s : Int))).put (some 38) (.int .i64 ((sgz s : Nat) : Int))).put (some 41) (.int .i64 (((sgz s : Nat) : Int) - (om s : Int)))).put (some 44) (.int .i64 ((mm s : Nat) : Int))).put (some 45) (.slice (some (x.add (mm s))) (sgz s - mm s) (cap - mm s))).put (some 46) (.tuple #[.slice (some ⟨gu, 0, none⟩) (kk s) (kk s), .bool true])).put (some 34) (.tuple #[.slice (some ⟨gu, 0, none⟩) (kk s) (kk s), .bool true])).put (some 47) (.slice (some ⟨gu, 0, none⟩) (kk s) (kk s))).put (some 48) (.bool true)).put (some 11) (.slice (some ⟨gu, 0, none⟩) (kk s) (kk s))).put (some 12) (.bool true))) ?_ ?_
      · refine wp_region_mids (C := fun w' => Blk w' w1.heap.size .i64 8 (ss s) 24) [0, 1, 2, 4, 5, 7, 8] 10 (by kernel_rfl) (by kernel_rfl) (fun _ _ _ _ _ h => nomatch h.1) fs (by kernel_rfl) ?_
        simp only [opsAt, List.filterMap_cons, List.filterMap_nil, List.getElem?_toArray, List.getElem?_cons_succ, List.getElem?_cons_zero]
        change wpQuiet _ _ _ _ (_ :: _ :: _ :: _ :: _ :: _ :: _ :: []) _
        (refine BigFrame.wpQuiet_want rfl (fun K hK => ?_); refine quiet_load_s Tryd.underlying24 rfl iSet _ rfl _ rfl (fun w' hw' => hw') (hK _ ?_); clear hK K; simp only [Act.put, List.setIfInBounds_toArray, List.set_cons_zero, List.set_cons_succ])
        (first | go_big_quiet_skip | (go_big_quiet_want; go_big_quiet_op; first | go_big_quiet_on | (apply Exists.intro; refine ⟨fun _ _ => rfl, ?_⟩; go_big_quiet_on)))
        (first | go_big_quiet_skip | (go_big_quiet_want; go_big_quiet_op; first | go_big_quiet_on | (apply Exists.intro; refine ⟨fun _ _ => rfl, ?_⟩; go_big_quiet_on)))
        (first | go_big_quiet_skip | (go_big_quiet_want; go_big_quiet_op; first | go_big_quiet_on | (apply Exists.intro; refine ⟨fun _ _ => rfl, ?_⟩; go_big_quiet_on)))
        (refine BigFrame.wpQuiet_want rfl (fun K hK => ?_); refine quiet_load_int 3 _ rfl _ 6 rfl .i64 ((om s : Int)) Tryd.isAgg3 (fun w' hw' => hw'.cellv 6 _ (by omega) (om_ss s hs3)) (hK _ ?_); clear hK K; simp only [Act.put, List.setIfInBounds_toArray, List.set_cons_zero, List.set_cons_succ])
        (first | go_big_quiet_skip | (go_big_quiet_want; go_big_quiet_op; first | go_big_quiet_on | (apply Exists.intro; refine ⟨fun _ _ => rfl, ?_⟩; go_big_quiet_on)))
        (refine BigFrame.wpQuiet_want rfl (fun K hK => ?_); refine quiet_load_int 3 _ rfl _ 0 rfl .i64 ((kk s : Int)) Tryd.isAgg3 (fun w' hw' => hw'.cellv 0 _ (by omega) (kk_ss s hs3)) (hK _ ?_); clear hK K; simp only [Act.put, List.setIfInBounds_toArray, List.set_cons_zero, List.set_cons_succ])
        refine wpQuiet_nil ?_
        obtain ⟨Wd, hWd⟩ : ∃ Wd : World, Wd = { w4 with drawn := w4.drawn + 1 } := ⟨_, rfl⟩
        have hWs : Below w4.heap.size w4 Wd := by rw [hWd]; exact abv_drawn w4
        change wpAnyH _ _ _ _ _ _ _ _ { w4 with drawn := w4.drawn + 1 }
        rw [← hWd]
        have fs := fs.below hWs
        clear hWd
        refine wpAnyH_all (rs := [3]) (by kernel_rfl) (by decide) ?_
        intro i hi
        obtain rfl := mem_one hi
        refine wpOp_one _ rfl ?_
        simp only [List.getElem_toArray, List.getElem_cons_succ, List.getElem_cons_zero]
        (first | go_big_quiet_skip | (go_big_quiet_want; go_big_quiet_op; first | go_big_quiet_on | (apply Exists.intro; refine ⟨fun _ _ => rfl, ?_⟩; go_big_quiet_on)))
        refine wpQuiet_nil ⟨fs, ?_⟩
        refine wpAnyH_all (rs := [6]) (by kernel_rfl) (by decide) ?_
        intro i hi
        obtain rfl := mem_one hi
        refine wpOp_one _ rfl ?_
        simp only [List.getElem_toArray, List.getElem_cons_succ, List.getElem_cons_zero]
        (first | go_big_quiet_skip | (go_big_quiet_want; go_big_quiet_op; first | go_big_quiet_on | (apply Exists.intro; refine ⟨fun _ _ => rfl, ?_⟩; go_big_quiet_on)))
        refine wpQuiet_nil ⟨fs, ?_⟩
        refine wpAnyH_all (rs := [9]) (by kernel_rfl) (by decide) ?_
        intro i hi
        obtain rfl := mem_one hi
        refine wpOp_one _ rfl ?_
        simp only [List.getElem_toArray, List.getElem_cons_succ, List.getElem_cons_zero]
        (first | go_big_quiet_skip | (go_big_quiet_want; go_big_quiet_op; first | go_big_quiet_on | (apply Exists.intro; refine ⟨fun _ _ => rfl, ?_⟩; go_big_quiet_on)))
        refine wpQuiet_nil ⟨fs, ?_⟩
        refine wpAnyH_all (rs := [10]) (by kernel_rfl) (by decide) ?_
        intro i hi
        obtain rfl := mem_one hi
        refine wpOp_one _ rfl ?_
        simp only [List.getElem_toArray, List.getElem_cons_succ, List.getElem_cons_zero]
        (first | go_big_quiet_skip | (go_big_quiet_want; go_big_quiet_op; first | go_big_quiet_on | (apply Exists.intro; refine ⟨fun _ _ => rfl, ?_⟩; go_big_quiet_on)))
        refine wpQuiet_nil ⟨fs, ?_⟩
        refine wpAnyH_all (rs := [11]) (by kernel_rfl) (by decide) ?_
        intro i hi
        obtain rfl := mem_one hi
        refine wpOp_call _ rfl rfl 10 _ _ rfl (by kernel_rfl) #[.agg (arr .i64 8 (ss s)), .slice (some (x.add (mm s))) (sgz s - mm s) (cap - mm s)] (by simp only [List.map_toArray, List.map_cons, List.map_nil]; rfl) ?_
        rw [show sgz s - mm s = om s + kk s from by omega]
        refine (unpackHints s (cap - mm s) (x.add (mm s)) (hby s b) Wd hs3 (HRH.out.below (hB4.trans (hWs.mono hB4.size))) (fun i hi => HB.out _ (by omega))).mono ?_
        rintro e w6 ⟨hd6, hb6⟩
        have hWs := belowChain hWs hb6 hWs.size
        have fs := fs.below hb6
        rcases hd6 with ⟨hok6, gu, rfl, hgu, hbu⟩ | ⟨hok6, rfl⟩
        · refine ⟨_, rfl, fs, ?_⟩
          refine wpAnyH_all (rs := [12]) (by kernel_rfl) (by decide) ?_
          intro i hi
          obtain rfl := mem_one hi
          refine wpOp_one _ rfl ?_
          simp only [List.getElem_toArray, List.getElem_cons_succ, List.getElem_cons_zero, Act.put, List.setIfInBounds_toArray, List.set_cons_zero, List.set_cons_succ]
          (first | go_big_quiet_skip | (go_big_quiet_want; go_big_quiet_op; first | go_big_quiet_on | (apply Exists.intro; refine ⟨fun _ _ => rfl, ?_⟩; go_big_quiet_on)))
          refine wpQuiet_nil ⟨fs, ?_⟩
          refine wpAnyH_all (rs := [13, 14]) (by kernel_rfl) (by decide) ?_
          intro i hi
          rcases mem_two hi with rfl | rfl
          · refine wpOp_one _ rfl ?_
            simp only [List.getElem_toArray, List.getElem_cons_succ, List.getElem_cons_zero]
            (first | go_big_quiet_skip | (go_big_quiet_want; go_big_quiet_op; first | go_big_quiet_on | (apply Exists.intro; refine ⟨fun _ _ => rfl, ?_⟩; go_big_quiet_on)))
            refine wpQuiet_nil ⟨fs, ?_⟩
            refine wpAnyH_all (rs := [14, 15]) (by kernel_rfl) (by decide) ?_
            intro i hi
            rcases mem_two hi with rfl | rfl
            · refine wpOp_one _ rfl ?_
              simp only [List.getElem_toArray, List.getElem_cons_succ, List.getElem_cons_zero]
              (first | go_big_quiet_skip | (go_big_quiet_want; go_big_quiet_op; first | go_big_quiet_on | (apply Exists.intro; refine ⟨fun _ _ => rfl, ?_⟩; go_big_quiet_on)))
              refine wpQuiet_nil ⟨fs, ?_⟩
              refine wpAnyH_all (rs := [15]) (by kernel_rfl) (by decide) ?_
              intro i hi
              obtain rfl := mem_one hi
              refine wpOp_assign _ rfl rfl _ rfl ⟨fs, ?_⟩
              refine wpAnyH_all (rs := [16]) (by kernel_rfl) (by decide) ?_
              intro i hi
              obtain rfl := mem_one hi
              refine wpOp_assign _ rfl rfl _ rfl ⟨fs, ?_⟩
              exact wpAnyH_done (by kernel_rfl) ⟨rfl, gu, hWs, by first | rfl | (simp [Act.put, Act.eval, go_sem])⟩ _
            · refine wpOp_assign _ rfl rfl _ rfl ⟨fs, ?_⟩
              refine wpAnyH_all (rs := [14]) (by kernel_rfl) (by decide) ?_
              intro i hi
              obtain rfl := mem_one hi
              refine wpOp_one _ rfl ?_
              simp only [List.getElem_toArray, List.getElem_cons_succ, List.getElem_cons_zero, Act.put, List.setIfInBounds_toArray, List.set_cons_zero, List.set_cons_succ]
              (first | go_big_quiet_skip | (go_big_quiet_want; go_big_quiet_op; first | go_big_quiet_on | (apply Exists.intro; refine ⟨fun _ _ => rfl, ?_⟩; go_big_quiet_on)))
              refine wpQuiet_nil ⟨fs, ?_⟩
              refine wpAnyH_all (rs := [16]) (by kernel_rfl) (by decide) ?_
              intro i hi
              obtain rfl := mem_one hi
              refine wpOp_assign _ rfl rfl _ rfl ⟨fs, ?_⟩
              exact wpAnyH_done (by kernel_rfl) ⟨rfl, gu, hWs, by first | rfl | (simp [Act.put, Act.eval, go_sem])⟩ _
          · refine wpOp_one _ rfl ?_
            simp only [List.getElem_toArray, List.getElem_cons_succ, List.getElem_cons_zero]
            (first | go_big_quiet_skip | (go_big_quiet_want; go_big_quiet_op; first | go_big_quiet_on | (apply Exists.intro; refine ⟨fun _ _ => rfl, ?_⟩; go_big_quiet_on)))
            refine wpQuiet_nil ⟨fs, ?_⟩
            refine wpAnyH_all (rs := [13]) (by kernel_rfl) (by decide) ?_
            intro i hi
            obtain rfl := mem_one hi
            refine wpOp_one _ rfl ?_
            simp only [List.getElem_toArray, List.getElem_cons_succ, List.getElem_cons_zero]
            (first | go_big_quiet_skip | (go_big_quiet_want; go_big_quiet_op; first | go_big_quiet_on | (apply Exists.intro; refine ⟨fun _ _ => rfl, ?_⟩; go_big_quiet_on)))
            refine wpQuiet_nil ⟨fs, ?_⟩
            refine wpAnyH_all (rs := [15]) (by kernel_rfl) (by decide) ?_
            intro i hi
            obtain rfl := mem_one hi
            refine wpOp_assign _ rfl rfl _ rfl ⟨fs, ?_⟩
            refine wpAnyH_all (rs := [16]) (by kernel_rfl) (by decide) ?_
            intro i hi
            obtain rfl := mem_one hi
            refine wpOp_assign _ rfl rfl _ rfl ⟨fs, ?_⟩
            exact wpAnyH_done (by kernel_rfl) ⟨rfl, gu, hWs, by first | rfl | (simp [Act.put, Act.eval, go_sem])⟩ _
        · exact absurd hok hok6
      rintro a' w7 ⟨gu, hb7, rfl⟩
      simp only [Act.put, List.setIfInBounds_toArray, List.set_cons_zero, List.set_cons_succ]
      have hB7 := belowChain hB4 hb7 hB4.size
      have hbh : Hid (∀ i, i < om s + kk s → 0 ≤ hby s b i ∧ hby s b i < 256) := Lib.hid fun i hi => HB.out _ (by omega)
      have hrd7 := hrd.below hb7
      have hmz7 := Lib.hid (hmz.below hb7)
      have hbt7 := hbt.below hb7
      have hmh7 : Hid (MatI .u8 w7 ⟨gh, 0, none⟩ (kk s) (hb (hbits (hby s b) (om s) (kk s)))) := Lib.hid fun r hr j hj => by
        rw [Addr.add_at, Nat.zero_add, hbt7.cell (by omega), hbits_hb]
      clear hM hbt hbt7 hmz hrd
      go_wp2_with (first | (go_at_call 20; refine (implSigEncode s c cz (kk s) ⟨g, 0, none⟩ ⟨gz, 0, none⟩ ⟨gh, 0, none⟩ b (zrow s b) (hbits (hby s b) (om s) (kk s)) _ hs3 (hp.below hB7) hrd7 hmz7.out hmh7.out (hbits_le hok hbh.out) (fun r _ i _ => zrow_bd s b r i) (fun r _ i _ => pval_zrow s hs3 b r i)).mono ?_; rintro e w8 ⟨g8, rfl, hg8, h8, hb8⟩) | (go_at_call 11; refine (lwAlike ⟨g8, 0, none⟩ x (sgz s) _ cap _ b w8 (Blk.rd (L := 0) h8 (by omega) (fun j _ => by rw [Nat.zero_add])) (HR.out.below (belowChain hB7 hb8 hB7.size)) (fun i hi => sgb_there s hs3 b hok HB.out i hi)).mono ?_; rintro e w9 ⟨rfl, rfl⟩))
      go_ret
      exact ⟨rfl, belowChain hB7 hb8 hB7.size⟩
    · go_wp2_with fail
      try simp only [Act.put]
      refine wp_region_viaA (fun A a' w' => Below w4.heap.size w4 w' ∧ a' = (((((((((((((((((A.put (some 35) (.agg (arr .i64 8 (ss s)))).put (some 36) (.slice (some x) (sgz s) cap)).put (some 37) (.slice (some x) (sgz s) cap)).put (some 39) (.pointer (some ⟨w1.heap.size, 6, none⟩))).put (some 40) (.int .i64 (om s : Int))).put (some 42) (.pointer (some ⟨w1.heap.size, 0, none⟩))).put (some 43) (.int .i64 (kk s : Int))).put (some 38) (.int .i64 ((sgz s : Nat) : Int))).put (some 41) (.int .i64 (((sgz s : Nat) : Int) - (om s : Int)))).put (some 44) (.int .i64 ((mm s : Nat) : Int))).put (some 45) (.slice (some (x.add (mm s))) (sgz s - mm s) (cap - mm s))).put (some 46) (.tuple #[.slice none 0 0, .bool false])).put (some 34) (.tuple #[.slice none 0 0, .bool false])).put (some 47) (.slice none 0 0)).put (some 48) (.bool false)).put (some 11) (.slice none 0 0)).put (some 12) (.bool false))) ?_ ?_
      · refine wp_region_mids (C := fun w' => Blk w' w1.heap.size .i64 8 (ss s) 24) [0, 1, 2, 4, 5, 7, 8] 10 (by kernel_rfl) (by kernel_rfl) (fun _ _ _ _ _ h => nomatch h.1) fs (by kernel_rfl) ?_
        simp only [opsAt, List.filterMap_cons, List.filterMap_nil, List.getElem?_toArray, List.getElem?_cons_succ, List.getElem?_cons_zero]
        change wpQuiet _ _ _ _ (_ :: _ :: _ :: _ :: _ :: _ :: _ :: []) _
        (refine BigFrame.wpQuiet_want rfl (fun K hK => ?_); refine quiet_load_s Tryd.underlying24 rfl iSet _ rfl _ rfl (fun w' hw' => hw') (hK _ ?_); clear hK K; simp only [Act.put, List.setIfInBounds_toArray, List.set_cons_zero, List.set_cons_succ])
        (first | go_big_quiet_skip | (go_big_quiet_want; go_big_quiet_op; first | go_big_quiet_on | (apply Exists.intro; refine ⟨fun _ _ => rfl, ?_⟩; go_big_quiet_on)))
        (first | go_big_quiet_skip | (go_big_quiet_want; go_big_quiet_op; first | go_big_quiet_on | (apply Exists.intro; refine ⟨fun _ _ => rfl, ?_⟩; go_big_quiet_on)))
        (first | go_big_quiet_skip | (go_big_quiet_want; go_big_quiet_op; first | go_big_quiet_on | (apply Exists.intro; refine ⟨fun _ _ => rfl, ?_⟩; go_big_quiet_on)))
        (refine BigFrame.wpQuiet_want rfl (fun K hK => ?_); refine quiet_load_int 3 _ rfl _ 6 rfl .i64 ((om s : Int)) Tryd.isAgg3 (fun w' hw' => hw'.cellv 6 _ (by omega) (om_ss s hs3)) (hK _ ?_); clear hK K; simp only [Act.put, List.setIfInBounds_toArray, List.set_cons_zero, List.set_cons_succ])
        (first | go_big_quiet_skip | (go_big_quiet_want; go_big_quiet_op; first | go_big_quiet_on | (apply Exists.intro; refine ⟨fun _ _ => rfl, ?_⟩; go_big_quiet_on)))
        (refine BigFrame.wpQuiet_want rfl (fun K hK => ?_); refine quiet_load_int 3 _ rfl _ 0 rfl .i64 ((kk s : Int)) Tryd.isAgg3 (fun w' hw' => hw'.cellv 0 _ (by omega) (kk_ss s hs3)) (hK _ ?_); clear hK K; simp only [Act.put, List.setIfInBounds_toArray, List.set_cons_zero, List.set_cons_succ])
        refine wpQuiet_nil ?_
        obtain ⟨Wd, hWd⟩ : ∃ Wd : World, Wd = { w4 with drawn := w4.drawn + 1 } := ⟨_, rfl⟩
        have hWs : Below w4.heap.size w4 Wd := by rw [hWd]; exact abv_drawn w4
        change wpAnyH _ _ _ _ _ _ _ _ { w4 with drawn := w4.drawn + 1 }
        rw [← hWd]
        have fs := fs.below hWs
        clear hWd
        refine wpAnyH_all (rs := [3]) (by kernel_rfl) (by decide) ?_
        intro i hi
        obtain rfl := mem_one hi
        refine wpOp_one _ rfl ?_
        simp only [List.getElem_toArray, List.getElem_cons_succ, List.getElem_cons_zero]
        (first | go_big_quiet_skip | (go_big_quiet_want; go_big_quiet_op; first | go_big_quiet_on | (apply Exists.intro; refine ⟨fun _ _ => rfl, ?_⟩; go_big_quiet_on)))
        refine wpQuiet_nil ⟨fs, ?_⟩
        refine wpAnyH_all (rs := [6]) (by kernel_rfl) (by decide) ?_
        intro i hi
        obtain rfl := mem_one hi
        refine wpOp_one _ rfl ?_
        simp only [List.getElem_toArray, List.getElem_cons_succ, List.getElem_cons_zero]
        (first | go_big_quiet_skip | (go_big_quiet_want; go_big_quiet_op; first | go_big_quiet_on | (apply Exists.intro; refine ⟨fun _ _ => rfl, ?_⟩; go_big_quiet_on)))
        refine wpQuiet_nil ⟨fs, ?_⟩
        refine wpAnyH_all (rs := [9]) (by kernel_rfl) (by decide) ?_
        intro i hi
        obtain rfl := mem_one hi
        refine wpOp_one _ rfl ?_
        simp only [List.getElem_toArray, List.getElem_cons_succ, List.getElem_cons_zero]
        (first | go_big_quiet_skip | (go_big_quiet_want; go_big_quiet_op; first | go_big_quiet_on | (apply Exists.intro; refine ⟨fun _ _ => rfl, ?_⟩; go_big_quiet_on)))
        refine wpQuiet_nil ⟨fs, ?_⟩
        refine wpAnyH_all (rs := [10]) (by kernel_rfl) (by decide) ?_
        intro i hi
        obtain rfl := mem_one hi
        refine wpOp_one _ rfl ?_
        simp only [List.getElem_toArray, List.getElem_cons_succ, List.getElem_cons_zero]
        (first | go_big_quiet_skip | (go_big_quiet_want; go_big_quiet_op; first | go_big_quiet_on | (apply Exists.intro; refine ⟨fun _ _ => rfl, ?_⟩; go_big_quiet_on)))
        refine wpQuiet_nil ⟨fs, ?_⟩
        refine wpAnyH_all (rs := [11]) (by kernel_rfl) (by decide) ?_
        intro i hi
        obtain rfl := mem_one hi
        refine wpOp_call _ rfl rfl 10 _ _ rfl (by kernel_rfl) #[.agg (arr .i64 8 (ss s)), .slice (some (x.add (mm s))) (sgz s - mm s) (cap - mm s)] (by simp only [List.map_toArray, List.map_cons, List.map_nil]; rfl) ?_
        rw [show sgz s - mm s = om s + kk s from by omega]
        refine (unpackHints s (cap - mm s) (x.add (mm s)) (hby s b) Wd hs3 (HRH.out.below (hB4.trans (hWs.mono hB4.size))) (fun i hi => HB.out _ (by omega))).mono ?_
        rintro e w6 ⟨hd6, hb6⟩
        have hWs := belowChain hWs hb6 hWs.size
        have fs := fs.below hb6
        rcases hd6 with ⟨hok6, gu, rfl, hgu, hbu⟩ | ⟨hok6, rfl⟩
        · exact absurd hok6 hok
        · refine ⟨_, rfl, fs, ?_⟩
          refine wpAnyH_all (rs := [12]) (by kernel_rfl) (by decide) ?_
          intro i hi
          obtain rfl := mem_one hi
          refine wpOp_one _ rfl ?_
          simp only [List.getElem_toArray, List.getElem_cons_succ, List.getElem_cons_zero, Act.put, List.setIfInBounds_toArray, List.set_cons_zero, List.set_cons_succ]
          (first | go_big_quiet_skip | (go_big_quiet_want; go_big_quiet_op; first | go_big_quiet_on | (apply Exists.intro; refine ⟨fun _ _ => rfl, ?_⟩; go_big_quiet_on)))
          refine wpQuiet_nil ⟨fs, ?_⟩
          refine wpAnyH_all (rs := [13, 14]) (by kernel_rfl) (by decide) ?_
          intro i hi
          rcases mem_two hi with rfl | rfl
          · refine wpOp_one _ rfl ?_
            simp only [List.getElem_toArray, List.getElem_cons_succ, List.getElem_cons_zero]
            (first | go_big_quiet_skip | (go_big_quiet_want; go_big_quiet_op; first | go_big_quiet_on | (apply Exists.intro; refine ⟨fun _ _ => rfl, ?_⟩; go_big_quiet_on)))
            refine wpQuiet_nil ⟨fs, ?_⟩
            refine wpAnyH_all (rs := [14, 15]) (by kernel_rfl) (by decide) ?_
            intro i hi
            rcases mem_two hi with rfl | rfl
            · refine wpOp_one _ rfl ?_
              simp only [List.getElem_toArray, List.getElem_cons_succ, List.getElem_cons_zero]
              (first | go_big_quiet_skip | (go_big_quiet_want; go_big_quiet_op; first | go_big_quiet_on | (apply Exists.intro; refine ⟨fun _ _ => rfl, ?_⟩; go_big_quiet_on)))
              refine wpQuiet_nil ⟨fs, ?_⟩
              refine wpAnyH_all (rs := [15]) (by kernel_rfl) (by decide) ?_
              intro i hi
              obtain rfl := mem_one hi
              refine wpOp_assign _ rfl rfl _ rfl ⟨fs, ?_⟩
              refine wpAnyH_all (rs := [16]) (by kernel_rfl) (by decide) ?_
              intro i hi
              obtain rfl := mem_one hi
              refine wpOp_assign _ rfl rfl _ rfl ⟨fs, ?_⟩
              exact wpAnyH_done (by kernel_rfl) ⟨rfl, hWs, by first | rfl | (simp [Act.put, Act.eval, go_sem])⟩ _
            · refine wpOp_assign _ rfl rfl _ rfl ⟨fs, ?_⟩
              refine wpAnyH_all (rs := [14]) (by kernel_rfl) (by decide) ?_
              intro i hi
              obtain rfl := mem_one hi
              refine wpOp_one _ rfl ?_
              simp only [List.getElem_toArray, List.getElem_cons_succ, List.getElem_cons_zero, Act.put, List.setIfInBounds_toArray, List.set_cons_zero, List.set_cons_succ]
              (first | go_big_quiet_skip | (go_big_quiet_want; go_big_quiet_op; first | go_big_quiet_on | (apply Exists.intro; refine ⟨fun _ _ => rfl, ?_⟩; go_big_quiet_on)))
              refine wpQuiet_nil ⟨fs, ?_⟩
              refine wpAnyH_all (rs := [16]) (by kernel_rfl) (by decide) ?_
              intro i hi
              obtain rfl := mem_one hi
              refine wpOp_assign _ rfl rfl _ rfl ⟨fs, ?_⟩
              exact wpAnyH_done (by kernel_rfl) ⟨rfl, hWs, by first | rfl | (simp [Act.put, Act.eval, go_sem])⟩ _
          · refine wpOp_one _ rfl ?_
            simp only [List.getElem_toArray, List.getElem_cons_succ, List.getElem_cons_zero]
            (first | go_big_quiet_skip | (go_big_quiet_want; go_big_quiet_op; first | go_big_quiet_on | (apply Exists.intro; refine ⟨fun _ _ => rfl, ?_⟩; go_big_quiet_on)))
            refine wpQuiet_nil ⟨fs, ?_⟩
            refine wpAnyH_all (rs := [13]) (by kernel_rfl) (by decide) ?_
            intro i hi
            obtain rfl := mem_one hi
            refine wpOp_one _ rfl ?_
            simp only [List.getElem_toArray, List.getElem_cons_succ, List.getElem_cons_zero]
            (first | go_big_quiet_skip | (go_big_quiet_want; go_big_quiet_op; first | go_big_quiet_on | (apply Exists.intro; refine ⟨fun _ _ => rfl, ?_⟩; go_big_quiet_on)))
            refine wpQuiet_nil ⟨fs, ?_⟩
            refine wpAnyH_all (rs := [15]) (by kernel_rfl) (by decide) ?_
            intro i hi
            obtain rfl := mem_one hi
            refine wpOp_assign _ rfl rfl _ rfl ⟨fs, ?_⟩
            refine wpAnyH_all (rs := [16]) (by kernel_rfl) (by decide) ?_
            intro i hi
            obtain rfl := mem_one hi
            refine wpOp_assign _ rfl rfl _ rfl ⟨fs, ?_⟩
            exact wpAnyH_done (by kernel_rfl) ⟨rfl, hWs, by first | rfl | (simp [Act.put, Act.eval, go_sem])⟩ _
      rintro a' w7 ⟨hb7, rfl⟩
      simp only [Act.put, List.setIfInBounds_toArray, List.set_cons_zero, List.set_cons_succ]
      have hB7 := belowChain hB4 hb7 hB4.size
      go_wp2_with fail
      go_ret
      exact ⟨rfl, hB7⟩
  · have hne : ((len : Int) != ((sgz s : Nat) : Int)) = true := by simp; omega
    go_wp2_with fail
    go_ret
    exact ⟨rfl, hB3⟩

end Go.Proofs.YtanfpnidlgejhaaDoor
