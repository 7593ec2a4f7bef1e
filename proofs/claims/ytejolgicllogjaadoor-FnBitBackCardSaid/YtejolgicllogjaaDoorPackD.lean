/-
  A mask packed: FnBitPack.
-/
import Derived.Test.YtejolgicllogjaaDoorUnpackD
import Derived.Test.YtejolgicllogjaaDoorPack3
namespace Go.Proofs.YtejolgicllogjaaDoor
open Go.RowKit

/-- The numbers that are packed. -/
def pval (s : Nat) (r : Nat → Int) (i : Nat) : Int := ss s 4 - cen (mred (r i)) 8380417
theorem dd_pow (s : Nat) (hs : s < 3) : (2 : Int) ^ dd s = 2 * ss s 4 := by
  have h3 : s = 0 ∨ s = 1 ∨ s = 2 := by omega
  rcases h3 with rfl | rfl | rfl <;> decide

set_option maxRecDepth 100000 in
set_option maxHeartbeats 1000000 in
theorem bitPackP (s : Nat) (B : Nat) (v : Value) (L : Nat) (z0 r : Nat → Int) (w : World) (hs : s < 3) (hB : B ≤ w.heap.size) (hL : L ≤ 65536) (hv : Buf B w v L (32 * dd s) z0 5)
    (hr : ∀ i, i < 256 → 0 ≤ r i ∧ r i < 8380417) (hf : ∀ i, i < 256 → 0 ≤ pval s r i ∧ pval s r i < 2 ^ dd s) :
    Calls Tryd.prog 37 #[v, .agg (arr .u32 256 r), .agg (arr .i64 8 (ps s))] w fun e w' => ∃ g c z, e = .returned (.slice (some ⟨g, 0, none⟩) (L + 32 * dd s) c) ∧ B ≤ g ∧ L + 32 * dd s ≤ c ∧ c ≤ 1099511627776 ∧ Blk w' g .u8 c z 5 ∧ (∀ i, i < L → z i = z0 i) ∧ (∀ j, j < 32 * dd s → z (L + j) = pby (dd s) (pval s r) 256 j) ∧ Below B w w' ∧ Ex g w w' := by
  have HV := Lib.hid hv; clear hv
  have HR := Lib.hid hr; clear hr
  have HF := Lib.hid hf; clear hf
  have h3 : s = 0 ∨ s = 1 ∨ s = 2 := by omega
  clear hs
  rcases h3 with rfl | rfl | rfl
  · have hg := Blk.cellv (Blk.new (g := w.heap.size + 1) (w.alloc (.cells (arr .u32 256 r) 47)) .i64 8 (ps 0) 57 (by first | omega | (simp; done) | (simp; omega))) 3 17 (by omega) rfl
    go_enter Tryd.func37, Tryd.ntmps37
    go_wp2_with (first | (with_reducible refine at_load 47 _ rfl ?_; refine wpList_load_arr Tryd.underlying47 iR rfl _ rfl _ rfl ((Blk.new w _ _ _ _ rfl).alloc _) ?_))
    refine (pack18 B v L z0 r _ (by first | omega | (simp; done) | (simp; omega)) hL ((HV.out.alloc _).alloc _) HR.out HF.out).mono ?_
    rintro e w1 ⟨g, c, z, rfl, hg, hc, hcm, hb, he1, he2, hb1, hx⟩
    go_wp2_with fail
    go_ret
    exact ⟨g, c, z, rfl, hg, hc, hcm, hb, he1, he2, ((((Below.refl w.heap.size w).alloc (Nat.le_refl _) _).alloc (by first | omega | (simp; done) | (simp; omega)) _).mono hB).trans hb1, (Ex.of_below (((Below.refl w.heap.size w).alloc (Nat.le_refl _) _).alloc (by first | omega | (simp; done) | (simp; omega)) _) g).trans hx⟩
  · have hg := Blk.cellv (Blk.new (g := w.heap.size + 1) (w.alloc (.cells (arr .u32 256 r) 47)) .i64 8 (ps 1) 57 (by first | omega | (simp; done) | (simp; omega))) 3 19 (by omega) rfl
    go_enter Tryd.func37, Tryd.ntmps37
    go_wp2_with (first | (with_reducible refine at_load 47 _ rfl ?_; refine wpList_load_arr Tryd.underlying47 iR rfl _ rfl _ rfl ((Blk.new w _ _ _ _ rfl).alloc _) ?_))
    refine (pack20 B v L z0 r _ (by first | omega | (simp; done) | (simp; omega)) hL ((HV.out.alloc _).alloc _) HR.out HF.out).mono ?_
    rintro e w1 ⟨g, c, z, rfl, hg, hc, hcm, hb, he1, he2, hb1, hx⟩
    go_wp2_with fail
    go_ret
    exact ⟨g, c, z, rfl, hg, hc, hcm, hb, he1, he2, ((((Below.refl w.heap.size w).alloc (Nat.le_refl _) _).alloc (by first | omega | (simp; done) | (simp; omega)) _).mono hB).trans hb1, (Ex.of_below (((Below.refl w.heap.size w).alloc (Nat.le_refl _) _).alloc (by first | omega | (simp; done) | (simp; omega)) _) g).trans hx⟩
  · have hg := Blk.cellv (Blk.new (g := w.heap.size + 1) (w.alloc (.cells (arr .u32 256 r) 47)) .i64 8 (ps 2) 57 (by first | omega | (simp; done) | (simp; omega))) 3 19 (by omega) rfl
    go_enter Tryd.func37, Tryd.ntmps37
    go_wp2_with (first | (with_reducible refine at_load 47 _ rfl ?_; refine wpList_load_arr Tryd.underlying47 iR rfl _ rfl _ rfl ((Blk.new w _ _ _ _ rfl).alloc _) ?_))
    refine (pack20 B v L z0 r _ (by first | omega | (simp; done) | (simp; omega)) hL ((HV.out.alloc _).alloc _) HR.out HF.out).mono ?_
    rintro e w1 ⟨g, c, z, rfl, hg, hc, hcm, hb, he1, he2, hb1, hx⟩
    go_wp2_with fail
    go_ret
    exact ⟨g, c, z, rfl, hg, hc, hcm, hb, he1, he2, ((((Below.refl w.heap.size w).alloc (Nat.le_refl _) _).alloc (by first | omega | (simp; done) | (simp; omega)) _).mono hB).trans hb1, (Ex.of_below (((Below.refl w.heap.size w).alloc (Nat.le_refl _) _).alloc (by first | omega | (simp; done) | (simp; omega)) _) g).trans hx⟩

set_option maxRecDepth 100000 in
set_option maxHeartbeats 1000000 in
theorem zzBitPack (s : Nat) (r : Nat → Int) (w : World) (hs : s < 3) (hp : Par w) (hr : ∀ i, i < 256 → 0 ≤ r i ∧ r i < 8380417) (hf : ∀ i, i < 256 → 0 ≤ pval s r i ∧ pval s r i < 2 ^ dd s) :
    Calls Tryd.prog 30 #[.int .i64 (nm s), .slice none 0 0, .agg (arr .u32 256 r)] w fun e w' => Bytes' w (32 * dd s) (pby (dd s) (pval s r) 256) e w' := by
  have HR := Lib.hid hr; clear hr
  have HF := Lib.hid hf; clear hf
  go_enter Tryd.func30, Tryd.ntmps30
  go_wp2_with fail
  refine wp_region_below_tail 4 (by kernel_rfl) (by kernel_rfl) ?_
  simp only [List.take_succ_cons, List.take_zero, List.drop_succ_cons, List.drop_zero]
  (first | go_big_quiet_skip | (go_big_quiet_want; go_big_quiet_op; first | go_big_quiet_on | (apply Exists.intro; refine ⟨fun _ _ => rfl, ?_⟩; go_big_quiet_on)))
  (refine BigFrame.wpQuiet_want rfl (fun K hK => ?_); refine quiet_load_arr Tryd.underlying47 iR _ rfl _ rfl (fun w' hw' => Blk.below (Blk.new w _ _ _ _ rfl) hw') (hK _ ?_); clear hK K; simp only [Act.put, List.setIfInBounds_toArray, List.set_cons_zero, List.set_cons_succ])
  (first | go_big_quiet_skip | (go_big_quiet_want; go_big_quiet_op; first | go_big_quiet_on | (apply Exists.intro; refine ⟨fun _ _ => rfl, ?_⟩; go_big_quiet_on)))
  go_big_quiet_step ((intro hw'; go_at_call 34; exact Calls.in_below hw' (zzSet s _ hs ((hp.alloc _).below hw'))))
  refine wpQuiet_nil ?_
  intro w2 hb2
  go_wp2_with fail
  refine (bitPackP s w.heap.size (.slice none 0 0) 0 (fun _ => 0) r _ hs (Nat.le_trans (by simp) hb2.size) (by omega) (.inl ⟨rfl, rfl⟩) HR.out HF.out).mono ?_
  rintro e w1 ⟨g, c, z, rfl, hg, hc, hcm, hb, _, he, hb1, _⟩
  go_wp2_with fail
  go_ret
  exact ⟨g, c, by simp, Blk.rd (L := 0) hb hc he, hg, by omega, hcm, (belowChain ((Below.refl w.heap.size w).alloc (Nat.le_refl _) _) hb2 (by first | omega | (simp; done) | (simp; omega))).trans hb1⟩
set_option maxRecDepth 100000 in
set_option maxHeartbeats 1000000 in
theorem implBitPack (s : Nat) (r : Nat → Int) (w : World) (hs : s < 3) (hp : Par w) (hr : ∀ i, i < 256 → 0 ≤ r i ∧ r i < 8380417) (hf : ∀ i, i < 256 → 0 ≤ pval s r i ∧ pval s r i < 2 ^ dd s) :
    Calls Tryd.prog 15 #[.int .i64 (nm s), .agg (arr .u32 256 r)] w fun e w' => Bytes' w (32 * dd s) (pby (dd s) (pval s r) 256) e w' := by
  go_enter Tryd.func15, Tryd.ntmps15
  go_wp2_with (first | (with_reducible refine at_load 30 _ rfl ?_; refine wpList_load_arr Tryd.underlying30 iU rfl _ rfl _ rfl (Blk.new w _ _ _ _ rfl) ?_))
  refine (implRing r _).mono ?_
  rintro e w1 ⟨rfl, hb1⟩
  have hB1 := belowChain ((Below.refl w.heap.size w).alloc (Nat.le_refl _) (.cells (arr .u32 256 r) 30)) hb1 (by first | omega | (simp; done) | (simp; omega))
  go_wp2_with fail
  refine (zzBitPack s r _ hs (hp.below hB1) hr hf).mono ?_
  rintro e w2 ⟨g, c, rfl, hb, hg, hc, hcm, hb2⟩
  go_wp2_with fail
  go_ret
  exact ⟨g, c, rfl, hb, Nat.le_trans hB1.size hg, hc, hcm, belowChain hB1 hb2 hB1.size⟩

set_option maxRecDepth 100000 in
set_option maxHeartbeats 1000000 in
theorem walkFnBitPack (n : Int) (r : Nat → Int) (w : World) (hp : Par w) (n0 : 0 ≤ n) (n1 : n < 256) (hx : ∀ i, i < 256 → 0 ≤ r i ∧ r i < 4294967296) :
    Calls Tryd.prog 4 #[.int .u8 n, .agg (arr .u32 256 r)] w fun e w' => e = .returned (.bool true) ∧ Below w.heap.size w w' := by
  obtain ⟨s, hs⟩ : ∃ s : Nat, (s : Int) = n % 3 := ⟨(n % 3).toNat, by omega⟩
  have hs3 : s < 3 := by omega
  have hgm : 2 * ss s 4 - 1 = (blN s : Int) := by
    have h3 : s = 0 ∨ s = 1 ∨ s = 2 := by omega
    rcases h3 with rfl | rfl | rfl <;> rfl
  have hgb : 1 ≤ ss s 4 ∧ ss s 4 ≤ 524288 := by
    have h3 : s = 0 ∨ s = 1 ∨ s = 2 := by omega
    rcases h3 with rfl | rfl | rfl <;> decide
  obtain ⟨hg0, hg1⟩ := hgb
  have hdp := dd_pow s hs3
  have HX := Lib.hid hx; clear hx
  go_enter Tryd.func4, Tryd.ntmps4
  go_wp2_with fail
  refine (lwSet _ s _ n0 n1 hs).mono ?_
  rintro e w1 ⟨rfl, hb1⟩
  clear hs
  have f0 := Blk.below (Blk.new w .u32 256 r 30 rfl) hb1
  have hB1 := belowChain ((Below.refl w.heap.size w).alloc (Nat.le_refl _) (.cells (arr .u32 256 r) 30)) hb1 (by first | omega | (simp; done) | (simp; omega))
  have hs1 := f0.lt
  go_wp2_with (first | (with_reducible refine at_store 24 _ _ rfl ?_; refine wpList_store_arr iSet rfl _ _ rfl _ rfl rfl (Blk.zeros8 _ _ rfl) ?_) | (with_reducible refine at_load 30 _ rfl ?_; refine wpList_load_arr Tryd.underlying30 iU rfl _ rfl _ rfl ((f0.alloc _).rowOther _ _ (by first | omega | (simp; done) | (simp; omega))) ?_))
  have f0 := (f0.alloc (.cells #[.int .i64 0, .int .i64 0, .int .i64 0, .int .i64 0, .int .i64 0, .int .i64 0, .int .i64 0, .int .i64 0] 24)).rowOther w1.heap.size (arr .i64 8 (ss s)) (by first | omega | (simp; done) | (simp; omega))
  have fs := (Blk.zeros8 w1 24 rfl).row .i64 (ss s)
  have hB2 := below_setRow (hB1.alloc hB1.size (.cells #[.int .i64 0, .int .i64 0, .int .i64 0, .int .i64 0, .int .i64 0, .int .i64 0, .int .i64 0, .int .i64 0] 24)) (g := w1.heap.size) hB1.size (arr .i64 8 (ss s))
  refine (lwPlain r _ HX.out).mono ?_
  rintro e w2 ⟨rfl, hb2⟩
  have f0 := f0.below hb2
  have fs := fs.below hb2
  have hB3 := belowChain hB2 hb2 hB2.size
  have hs2 := f0.lt
  have hs3' := fs.lt
  clear hb1 hb2
  go_wp2_with (first | (with_reducible refine at_store 33 _ _ rfl ?_; refine wpList_store_arr iP rfl _ _ rfl _ rfl rfl (Blk.new _ _ _ _ _ rfl) ?_))
  have f0 := (f0.alloc (.cells (arr .i64 256 (fun _ => 0)) 33)).rowOther w2.heap.size (arr .i64 256 (fun i => mred (r i))) (by first | omega | (simp; done) | (simp; omega))
  have fs := (fs.alloc (.cells (arr .i64 256 (fun _ => 0)) 33)).rowOther w2.heap.size (arr .i64 256 (fun i => mred (r i))) (by first | omega | (simp; done) | (simp; omega))
  have ga := (Blk.new w2 .i64 256 (fun _ => 0) 33 rfl).row .i64 (fun i => mred (r i))
  have hB4 := below_setRow (hB3.alloc hB3.size (.cells (arr .i64 256 (fun _ => 0)) 33)) (g := w2.heap.size) hB3.size (arr .i64 256 (fun i => mred (r i)))
  cases hrx : redB r with
  | false =>
    refine wp_region_below (by kernel_rfl) (by kernel_rfl) ?_
    repeat (first | go_big_quiet_skip | (go_big_quiet_want; go_big_quiet_op; first | go_big_quiet_on | (apply Exists.intro; refine ⟨fun _ _ => rfl, ?_⟩; go_big_quiet_on)))
    refine wpQuiet_nil ?_
    intro w3 hb3
    go_wp2_with fail
    go_ret
    exact ⟨rfl, belowChain hB4 hb3 hB4.size⟩
  | true =>
    have QX := Lib.hid (fun i (hi : i < 256) => And.intro (HX.out i hi).1 (redB_true hrx i hi))
    clear hrx
    cases hwi : withB (fun i => mred (r i)) (ss s 4 - 1) (ss s 4) with
    | false =>
      refine wp_region_below (by kernel_rfl) (by kernel_rfl) ?_
      (first | go_big_quiet_skip | (go_big_quiet_want; go_big_quiet_op; first | go_big_quiet_on | (apply Exists.intro; refine ⟨fun _ _ => rfl, ?_⟩; go_big_quiet_on)))
      (first | go_big_quiet_skip | (go_big_quiet_want; go_big_quiet_op; first | go_big_quiet_on | (apply Exists.intro; refine ⟨fun _ _ => rfl, ?_⟩; go_big_quiet_on)))
      (first | go_big_quiet_skip | (go_big_quiet_want; go_big_quiet_op; first | go_big_quiet_on | (apply Exists.intro; refine ⟨fun _ _ => rfl, ?_⟩; go_big_quiet_on)))
      (refine BigFrame.wpQuiet_want rfl (fun K hK => ?_); refine quiet_load_arr Tryd.underlying33 iP _ rfl _ rfl (fun w' hw' => Blk.below (ga) hw') (hK _ ?_); clear hK K; simp only [Act.put, List.setIfInBounds_toArray, List.set_cons_zero, List.set_cons_succ])
      (first | go_big_quiet_skip | (go_big_quiet_want; go_big_quiet_op; first | go_big_quiet_on | (apply Exists.intro; refine ⟨fun _ _ => rfl, ?_⟩; go_big_quiet_on)))
      (refine BigFrame.wpQuiet_want rfl (fun K hK => ?_); refine quiet_load_int 3 _ rfl _ 4 rfl .i64 (ss s 4) Tryd.isAgg3 (fun w' hw' => (Blk.below (fs) hw').cellv 4 _ (by omega) rfl) (hK _ ?_); clear hK K; simp only [Act.put, List.setIfInBounds_toArray, List.set_cons_zero, List.set_cons_succ])
      (first | go_big_quiet_skip | (go_big_quiet_want; go_big_quiet_op; first | go_big_quiet_on | (apply Exists.intro; refine ⟨fun _ _ => rfl, ?_⟩; go_big_quiet_on)))
      (first | go_big_quiet_skip | (go_big_quiet_want; go_big_quiet_op; first | go_big_quiet_on | (apply Exists.intro; refine ⟨fun _ _ => rfl, ?_⟩; go_big_quiet_on)))
      (refine BigFrame.wpQuiet_want rfl (fun K hK => ?_); refine quiet_load_int 3 _ rfl _ 4 rfl .i64 (ss s 4) Tryd.isAgg3 (fun w' hw' => (Blk.below (fs) hw').cellv 4 _ (by omega) rfl) (hK _ ?_); clear hK K; simp only [Act.put, List.setIfInBounds_toArray, List.set_cons_zero, List.set_cons_succ])
      go_big_quiet_step ((intro hw'; go_at_call 13; exact Calls.in_below hw' (lwWithin _ (ss s 4 - 1) (ss s 4) _ (by omega) (by omega) (by omega) (by omega) (fun i _ => ⟨mred_lo _, mred_hi _⟩))))
      rw [hwi]
      repeat (first | go_big_quiet_skip | (go_big_quiet_want; go_big_quiet_op; first | go_big_quiet_on | (apply Exists.intro; refine ⟨fun _ _ => rfl, ?_⟩; go_big_quiet_on)))
      refine wpQuiet_nil ?_
      intro w3 hb3
      go_wp2_with fail
      go_ret
      exact ⟨rfl, belowChain hB4 hb3 hB4.size⟩
    | true =>
      have HF := Lib.hid (show ∀ i, i < 256 → 0 ≤ pval s r i ∧ pval s r i < 2 ^ dd s from fun i hi => by have := withB_true hwi i hi; unfold pval; omega)
      have hdd : 18 ≤ dd s ∧ dd s ≤ 20 := by unfold dd; split <;> omega
      obtain ⟨hd0, hd1⟩ := hdd
      refine wp_region_held_seq (C := Abv _) 13 [13, 14, 16, 17, 18, 19, 20, 21] [15, 22, 23, 24] (by kernel_rfl) (by kernel_rfl) (fun _ _ d _ _ h => by cases d <;> exact h) (abv_drawn _) (by kernel_rfl) ?_
      simp only [List.take_succ_cons, List.take_zero, List.cons_append, List.nil_append, opsAt, List.filterMap_cons, List.filterMap_nil, List.getElem?_toArray, List.getElem?_cons_succ, List.getElem?_cons_zero]
      (first | go_big_quiet_skip | (go_big_quiet_want; go_big_quiet_op; first | go_big_quiet_on | (apply Exists.intro; refine ⟨fun _ _ => rfl, ?_⟩; go_big_quiet_on)))
      (first | go_big_quiet_skip | (go_big_quiet_want; go_big_quiet_op; first | go_big_quiet_on | (apply Exists.intro; refine ⟨fun _ _ => rfl, ?_⟩; go_big_quiet_on)))
      (first | go_big_quiet_skip | (go_big_quiet_want; go_big_quiet_op; first | go_big_quiet_on | (apply Exists.intro; refine ⟨fun _ _ => rfl, ?_⟩; go_big_quiet_on)))
      (refine BigFrame.wpQuiet_want rfl (fun K hK => ?_); refine quiet_load_arr Tryd.underlying33 iP _ rfl _ rfl (fun w' hw' => Blk.below (ga) hw') (hK _ ?_); clear hK K; simp only [Act.put, List.setIfInBounds_toArray, List.set_cons_zero, List.set_cons_succ])
      (first | go_big_quiet_skip | (go_big_quiet_want; go_big_quiet_op; first | go_big_quiet_on | (apply Exists.intro; refine ⟨fun _ _ => rfl, ?_⟩; go_big_quiet_on)))
      (refine BigFrame.wpQuiet_want rfl (fun K hK => ?_); refine quiet_load_int 3 _ rfl _ 4 rfl .i64 (ss s 4) Tryd.isAgg3 (fun w' hw' => (Blk.below (fs) hw').cellv 4 _ (by omega) rfl) (hK _ ?_); clear hK K; simp only [Act.put, List.setIfInBounds_toArray, List.set_cons_zero, List.set_cons_succ])
      (first | go_big_quiet_skip | (go_big_quiet_want; go_big_quiet_op; first | go_big_quiet_on | (apply Exists.intro; refine ⟨fun _ _ => rfl, ?_⟩; go_big_quiet_on)))
      (first | go_big_quiet_skip | (go_big_quiet_want; go_big_quiet_op; first | go_big_quiet_on | (apply Exists.intro; refine ⟨fun _ _ => rfl, ?_⟩; go_big_quiet_on)))
      (refine BigFrame.wpQuiet_want rfl (fun K hK => ?_); refine quiet_load_int 3 _ rfl _ 4 rfl .i64 (ss s 4) Tryd.isAgg3 (fun w' hw' => (Blk.below (fs) hw').cellv 4 _ (by omega) rfl) (hK _ ?_); clear hK K; simp only [Act.put, List.setIfInBounds_toArray, List.set_cons_zero, List.set_cons_succ])
      go_big_quiet_step ((intro hw'; go_at_call 13; exact Calls.in_below hw' (lwWithin _ (ss s 4 - 1) (ss s 4) _ (by omega) (by omega) (by omega) (by omega) (fun i _ => ⟨mred_lo _, mred_hi _⟩))))
      rw [hwi]
      (first | go_big_quiet_skip | (go_big_quiet_want; go_big_quiet_op; first | go_big_quiet_on | (apply Exists.intro; refine ⟨fun _ _ => rfl, ?_⟩; go_big_quiet_on)))
      (first | go_big_quiet_skip | (go_big_quiet_want; go_big_quiet_op; first | go_big_quiet_on | (apply Exists.intro; refine ⟨fun _ _ => rfl, ?_⟩; go_big_quiet_on)))
      (first | go_big_quiet_skip | (go_big_quiet_want; go_big_quiet_op; first | go_big_quiet_on | (apply Exists.intro; refine ⟨fun _ _ => rfl, ?_⟩; go_big_quiet_on)))
      change wpQuiet _ _ _ _ (_ :: _ :: _ :: _ :: _ :: _ :: _ :: _ :: []) _
      (first | go_big_quiet_skip | (go_big_quiet_want; go_big_quiet_op; first | go_big_quiet_on | (apply Exists.intro; refine ⟨fun _ _ => rfl, ?_⟩; go_big_quiet_on)))
      (refine BigFrame.wpQuiet_want rfl (fun K hK => ?_); refine quiet_load_arr Tryd.underlying30 iU _ rfl _ rfl (fun w' hw' => Blk.below (f0) hw') (hK _ ?_); clear hK K; simp only [Act.put, List.setIfInBounds_toArray, List.set_cons_zero, List.set_cons_succ])
      (refine BigFrame.wpQuiet_want rfl (fun K hK => ?_); refine quiet_load_arr Tryd.underlying30 iU _ rfl _ rfl (fun w' hw' => Blk.below (f0) hw') (hK _ ?_); clear hK K; simp only [Act.put, List.setIfInBounds_toArray, List.set_cons_zero, List.set_cons_succ])
      (first | go_big_quiet_skip | (go_big_quiet_want; go_big_quiet_op; first | go_big_quiet_on | (apply Exists.intro; refine ⟨fun _ _ => rfl, ?_⟩; go_big_quiet_on)))
      (refine BigFrame.wpQuiet_want rfl (fun K hK => ?_); refine quiet_load_int 3 _ rfl _ 4 rfl .i64 (ss s 4) Tryd.isAgg3 (fun w' hw' => (Blk.below (fs) hw').cellv 4 _ (by omega) rfl) (hK _ ?_); clear hK K; simp only [Act.put, List.setIfInBounds_toArray, List.set_cons_zero, List.set_cons_succ])
      (first | go_big_quiet_skip | (go_big_quiet_want; go_big_quiet_op; first | go_big_quiet_on | (apply Exists.intro; refine ⟨fun _ _ => rfl, ?_⟩; go_big_quiet_on)))
      (first | go_big_quiet_skip | (go_big_quiet_want; go_big_quiet_op; first | go_big_quiet_on | (apply Exists.intro; refine ⟨fun _ _ => rfl, ?_⟩; go_big_quiet_on)))
      (refine BigFrame.wpQuiet_want rfl (fun K hK => ?_); refine quiet_load_int 3 _ rfl _ 4 rfl .i64 (ss s 4) Tryd.isAgg3 (fun w' hw' => (Blk.below (fs) hw').cellv 4 _ (by omega) rfl) (hK _ ?_); clear hK K; simp only [Act.put, List.setIfInBounds_toArray, List.set_cons_zero, List.set_cons_succ])
      refine wpQuiet_nil ?_
      intro w3 hb3
      refine seqH_call _ rfl rfl 15 _ _ rfl (by kernel_rfl) #[.int .i64 (nm s), .agg (arr .u32 256 r)] (by simp only [List.map_toArray, List.map_cons, List.map_nil]; rfl) ?_
      refine (implBitPack s r _ hs3 ((hp.below hB4).below hb3) QX.out HF.out).mono ?_
      rintro e w4 ⟨g, c, rfl, hb, hg, hc, hcm, hb4⟩
      refine ⟨_, rfl, Below.trans hb3 (hb4.mono hb3.size), ?_⟩
      have hb5 := Below.trans hb3 (hb4.mono hb3.size)
      simp only [List.getElem_toArray, List.getElem_cons_succ, List.getElem_cons_zero, Act.put, List.setIfInBounds_toArray, List.set_cons_zero, List.set_cons_succ]
      refine seqH_call _ rfl rfl 14 _ _ rfl (by kernel_rfl) #[.slice (some ⟨g, 0, none⟩) (32 * dd s) c, .agg (arr .u32 256 r), .int .i64 (ss s 4 - 1), .int .i64 (ss s 4)] (by simp only [List.map_toArray, List.map_cons, List.map_nil]; rfl) ?_
      refine (lwPacks ⟨g, 0, none⟩ c _ r (dd s) (blN s) (ss s 4 - 1) (ss s 4) _ (by omega) (blN_lt s hs3) (blN_dd s) (by omega) (by omega) (by omega) (by omega) (by omega) (by omega) QX.out hwi (by omega) hb (fun _ _ => rfl)).mono ?_
      rintro e w6 ⟨rfl, hb6⟩
      refine ⟨_, rfl, Below.trans hb5 (hb6.mono hb5.size), ?_⟩
      simp only [List.getElem_toArray, List.getElem_cons_succ, List.getElem_cons_zero, Act.put, List.setIfInBounds_toArray, List.set_cons_zero, List.set_cons_succ]
      refine seqH_still [23, 24] (r := []) (by kernel_rfl) (Below.trans hb5 (hb6.mono hb5.size)) ?_
      simp only [opsAt, List.filterMap_cons, List.filterMap_nil, List.getElem?_toArray, List.getElem?_cons_succ, List.getElem?_cons_zero]
      change wpQuiet _ _ _ _ (_ :: _ :: []) _
      repeat (first | go_big_quiet_skip | (go_big_quiet_want; go_big_quiet_op; first | go_big_quiet_on | (apply Exists.intro; refine ⟨fun _ _ => rfl, ?_⟩; go_big_quiet_on)))
      refine wpQuiet_nil ?_
      intro w7 hb7
      refine seqH_nil ?_
      go_wp2_with fail
      go_ret
      exact ⟨rfl, belowChain hB4 hb7 hB4.size⟩

end Go.Proofs.YtejolgicllogjaaDoor
