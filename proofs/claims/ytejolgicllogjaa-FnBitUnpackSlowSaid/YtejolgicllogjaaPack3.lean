/-
  The laws of packing.
-/
import Derived.Test.YtejolgicllogjaaPack2
import Derived.Test.YtejolgicllogjaaHeld
namespace Go.Proofs.Ytejolgicllogjaa
open Go.RowKit

/-- Whether all numbers, centred, are from -a to top. -/
def withB (f : Nat → Int) (a top : Int) : Bool := (List.range 256).all fun i => decide (-a ≤ cen (f i) 8380417 ∧ cen (f i) 8380417 ≤ top)
theorem withB_true {f : Nat → Int} {a top : Int} (h : withB f a top = true) (i : Nat) (hi : i < 256) : -a ≤ cen (f i) 8380417 ∧ cen (f i) 8380417 ≤ top := by
  unfold withB at h
  rw [List.all_eq_true] at h
  simpa using h i (List.mem_range.2 hi)
theorem withB_false {f : Nat → Int} {a top : Int} (i : Nat) (hi : i < 256) (h : ¬(-a ≤ cen (f i) 8380417 ∧ cen (f i) 8380417 ≤ top)) : withB f a top = false := by
  unfold withB
  rw [List.all_eq_false]
  exact ⟨i, List.mem_range.2 hi, by simpa using h⟩
theorem withB_all {f : Nat → Int} {a top : Int} (h : ∀ i, i < 256 → -a ≤ cen (f i) 8380417 ∧ cen (f i) 8380417 ≤ top) : withB f a top = true := by
  unfold withB
  rw [List.all_eq_true]
  intro i hi
  simpa using h i (List.mem_range.1 hi)
/-- A slice of n bytes comes back, and what lay there is as it was. -/
def Bytes' (w : World) (n : Nat) (b : Nat → Int) (e : Ending) (w' : World) : Prop := ∃ g c, e = .returned (.slice (some ⟨g, 0, none⟩) n c) ∧ Rd .u8 w' ⟨g, 0, none⟩ n b ∧ w.heap.size ≤ g ∧ n ≤ c ∧ c ≤ 1099511627776 ∧ Below w.heap.size w w'

set_option maxRecDepth 100000 in
set_option maxHeartbeats 1000000 in
theorem lwWithin (f : Nat → Int) (a top : Int) (w : World) (a0 : 0 ≤ a) (a1 : a ≤ 1048576) (_t0 : 0 ≤ top) (_t1 : top ≤ 1048576) (hz : ∀ i, i < 256 → 0 ≤ f i ∧ f i < 8380417) :
    Calls Try.prog 14 #[.agg (arr .i64 256 f), .int .i64 a, .int .i64 top] w fun e w' => e = .returned (.bool (withB f a top)) ∧ Below w.heap.size w w' := by
  have HZ := Lib.hid hz; clear hz
  go_enter Try.func14, Try.ntmps14
  go_wp2_with (first | (with_reducible refine at_load 28 _ rfl ?_; refine wpList_load_arr Try.underlying28 iP rfl _ rfl _ rfl (Blk.new w _ _ _ _ rfl) ?_))
  go_loop [11] (fun i => ∃ k : Nat, k ≤ 256 ∧ i = .int .i64 k ∧ Hid (∀ j, j < k → -a ≤ cen (f j) 8380417 ∧ cen (f j) 8380417 ≤ top)) (fun i => 256 - (intOf i).toNat)
  case atStart => exact ⟨0, by omega, rfl, Lib.hid (fun j hj => by omega)⟩
  case round =>
    obtain ⟨k, hk, rfl, hall⟩ := hrel
    by_cases hlt : k < 256
    · obtain ⟨z0, z1⟩ := HZ.out k hlt
      obtain ⟨cv, hcv⟩ : ∃ cv, cv = cen (f k) 8380417 := ⟨_, rfl⟩
      have HC := Lib.hid hcv
      by_cases h1 : cv < -a
      · go_wp2_with (first | (go_at_call 31; refine (spCentred _ _ _ (by omega) (by omega) (by omega) (by omega)).mono ?_; rintro e w' ⟨rfl, rfl⟩; rw [← HC.out]))
        go_ret
        exact ⟨ret_bool (withB_false k hlt (by rw [← HC.out]; omega)).symm, (Below.refl _ _).alloc (Nat.le_refl _) _⟩
      · by_cases h2 : top < cv
        · go_wp2_with (first | (go_at_call 31; refine (spCentred _ _ _ (by omega) (by omega) (by omega) (by omega)).mono ?_; rintro e w' ⟨rfl, rfl⟩; rw [← HC.out]))
          go_ret
          exact ⟨ret_bool (withB_false k hlt (by rw [← HC.out]; omega)).symm, (Below.refl _ _).alloc (Nat.le_refl _) _⟩
        · go_wp2_with (first | (go_at_call 31; refine (spCentred _ _ _ (by omega) (by omega) (by omega) (by omega)).mono ?_; rintro e w' ⟨rfl, rfl⟩; rw [← HC.out]))
          go_round
          case rel => exact ⟨k + 1, by omega, by go_num, Lib.hid (fun j hj => by
            by_cases e : j = k
            · subst e; rw [← HC.out]; omega
            · exact hall.out j (by omega))⟩
          case measure => simp [intOf]; omega
    · obtain rfl : k = 256 := by omega
      go_wp2_with fail
      go_ret
      exact ⟨ret_bool (withB_all hall.out).symm, (Below.refl _ _).alloc (Nat.le_refl _) _⟩

set_option maxRecDepth 100000 in
set_option maxHeartbeats 1000000 in
theorem lwPacks (x : Addr) (cap : Nat) (b f : Nat → Int) (d N : Nat) (a top : Int) (w : World) (ha : a + top = (N : Int)) (hN : N < 2 ^ 62) (hbl : blen 62 N = d) (a0 : 0 ≤ a) (a1 : a ≤ 1048576) (t0 : 0 ≤ top) (t1 : top ≤ 1048576) (hd0 : 0 < d) (hd : d ≤ 20)
    (hz : ∀ i, i < 256 → 0 ≤ f i ∧ f i < 8380417) (hw : withB (fun i => mred (f i)) a top = true) (hN2 : (N : Int) < 2 ^ d) (hb : Rd .u8 w x (32 * d) b) (he : ∀ j, j < 32 * d → b j = pby d (fun i => top - cen (mred (f i)) 8380417) 256 j) :
    Calls Try.prog 15 #[.slice (some x) (32 * d) cap, .agg (arr .u32 256 f), .int .i64 a, .int .i64 top] w fun e w' => e = .returned (.bool true) ∧ Below w.heap.size w w' := by
  have HZ := Lib.hid hz; clear hz
  have HB := Lib.hid hb; clear hb
  have HE := Lib.hid he; clear he
  have HF := Lib.hid (show ∀ i, i < 256 → 0 ≤ top - cen (mred (f i)) 8380417 ∧ top - cen (mred (f i)) 8380417 < 2 ^ d from fun i hi => by have := withB_true hw i hi; omega)
  clear hN2
  have hr : redB f = true := by
    unfold redB
    rw [List.all_eq_true]
    intro i hi
    simpa using (HZ.out i (List.mem_range.1 hi)).2
  go_enter Try.func15, Try.ntmps15
  go_wp2_with (first | (with_reducible refine at_load 25 _ rfl ?_; refine wpList_load_arr Try.underlying25 iU rfl _ rfl _ rfl (Blk.new w _ _ _ _ rfl) ?_))
  refine (lwPlain f _ (fun i hi => by have := HZ.out i hi; omega)).mono ?_
  rintro e w1 ⟨rfl, hb1⟩
  rw [hr]
  have hB1 := belowChain ((Below.refl w.heap.size w).alloc (Nat.le_refl _) (.cells (arr .u32 256 f) 25)) hb1 (by first | omega | (simp; done) | (simp; omega))
  clear hb1
  go_wp2_with (first | (with_reducible refine at_store 28 _ _ rfl ?_; refine wpList_store_arr iP rfl _ _ rfl _ rfl rfl (Blk.new _ _ _ _ _ rfl) ?_))
  refine wp_load_arr Try.underlying28 iP _ rfl _ rfl ((Blk.new w1 .i64 256 (fun _ => 0) 28 rfl).row .i64 (fun i => mred (f i))) ?_
  go_wp2_with fail
  refine (lwWithin _ a top _ a0 a1 t0 t1 (fun i _ => ⟨mred_lo _, mred_hi _⟩)).mono ?_
  rintro e w2 ⟨rfl, hb2⟩
  rw [hw]
  have f1 := Blk.below ((Blk.new w1 .i64 256 (fun _ => 0) 28 rfl).row .i64 (fun i => mred (f i))) hb2
  have hB2 := belowChain (below_setRow (hB1.alloc hB1.size (.cells (arr .i64 256 (fun _ => 0)) 28)) (g := w1.heap.size) hB1.size (arr .i64 256 (fun i => mred (f i)))) hb2 (by have := hB1.size; rw [setRow_size]; simp; omega)
  clear hb2
  go_wp2_with fail
  refine wp_load_arr Try.underlying28 iP _ rfl _ rfl f1 ?_
  go_wp2_with fail
  refine (spPackedFrom _ d N a top _ ha hN hbl a0 a1 t0 t1 hd0 hd (fun i _ => ⟨mred_lo _, mred_hi _⟩) HF.out).mono ?_
  rintro e w3 ⟨g, rfl, hg, hbg, hb3⟩
  go_wp2_with fail
  refine (lwAlike x ⟨g, 0, none⟩ (32 * d) cap (32 * d) b _ _ ((HB.out.below hB2).below hb3) (Blk.rd (L := 0) hbg (by omega) (fun j _ => by rw [Nat.zero_add])) HE.out).mono ?_
  rintro e w' ⟨rfl, rfl⟩
  go_wp2_with fail
  go_ret
  exact ⟨rfl, belowChain hB2 hb3 hB2.size⟩

set_option maxRecDepth 100000 in
set_option maxHeartbeats 1000000 in
theorem zzBitPack20 (r : Nat → Int) (w : World) (hr : ∀ i, i < 256 → 0 ≤ r i ∧ r i < 8380417) (hf : ∀ i, i < 256 → 0 ≤ 524288 - cen (mred (r i)) 8380417 ∧ 524288 - cen (mred (r i)) 8380417 < 1048576) :
    Calls Try.prog 34 #[.slice none 0 0, .agg (arr .u32 256 r)] w fun e w' => Bytes' w 640 (pby 20 (fun i => 524288 - cen (mred (r i)) 8380417) 256) e w' := by
  go_enter Try.func34, Try.ntmps34
  go_wp2_with (first | (with_reducible refine at_load 50 _ rfl ?_; refine wpList_load_arr Try.underlying50 iR rfl _ rfl _ rfl (Blk.new w _ _ _ _ rfl) ?_))
  refine (pack20 (w.heap.size + 1) (.slice none 0 0) 0 (fun _ => 0) r _ (by first | omega | (simp; done) | (simp; omega)) (by omega) (.inl ⟨rfl, rfl⟩) hr hf).mono ?_
  rintro e w1 ⟨g, c, z, rfl, hg, hc, hcm, hb, _, he, hb1, _⟩
  go_wp2_with fail
  go_ret
  exact ⟨g, c, by simp, Blk.rd (L := 0) hb hc he, by omega, by omega, hcm, ((Below.refl w.heap.size w).alloc (Nat.le_refl _) _).trans (hb1.mono (by omega))⟩
set_option maxRecDepth 100000 in
set_option maxHeartbeats 1000000 in
theorem implBitPack20 (r : Nat → Int) (w : World) (hr : ∀ i, i < 256 → 0 ≤ r i ∧ r i < 8380417) (hf : ∀ i, i < 256 → 0 ≤ 524288 - cen (mred (r i)) 8380417 ∧ 524288 - cen (mred (r i)) 8380417 < 1048576) :
    Calls Try.prog 16 #[.agg (arr .u32 256 r)] w fun e w' => Bytes' w 640 (pby 20 (fun i => 524288 - cen (mred (r i)) 8380417) 256) e w' := by
  go_enter Try.func16, Try.ntmps16
  go_wp2_with (first | (with_reducible refine at_load 25 _ rfl ?_; refine wpList_load_arr Try.underlying25 iU rfl _ rfl _ rfl (Blk.new w _ _ _ _ rfl) ?_))
  refine (implRing r _).mono ?_
  rintro e w1 ⟨rfl, hb1⟩
  have hB1 := belowChain ((Below.refl w.heap.size w).alloc (Nat.le_refl _) (.cells (arr .u32 256 r) 25)) hb1 (by first | omega | (simp; done) | (simp; omega))
  go_wp2_with fail
  refine (zzBitPack20 r _ hr hf).mono ?_
  rintro e w2 ⟨g, c, rfl, hb, hg, hc, hcm, hb2⟩
  go_wp2_with fail
  go_ret
  exact ⟨g, c, rfl, hb, Nat.le_trans hB1.size hg, hc, hcm, belowChain hB1 hb2 hB1.size⟩

set_option maxRecDepth 100000 in
set_option maxHeartbeats 1000000 in
theorem zzBitPack18 (r : Nat → Int) (w : World) (hr : ∀ i, i < 256 → 0 ≤ r i ∧ r i < 8380417) (hf : ∀ i, i < 256 → 0 ≤ 131072 - cen (mred (r i)) 8380417 ∧ 131072 - cen (mred (r i)) 8380417 < 262144) :
    Calls Try.prog 36 #[.slice none 0 0, .agg (arr .u32 256 r)] w fun e w' => Bytes' w 576 (pby 18 (fun i => 131072 - cen (mred (r i)) 8380417) 256) e w' := by
  go_enter Try.func36, Try.ntmps36
  go_wp2_with (first | (with_reducible refine at_load 50 _ rfl ?_; refine wpList_load_arr Try.underlying50 iR rfl _ rfl _ rfl (Blk.new w _ _ _ _ rfl) ?_))
  refine (pack18 (w.heap.size + 1) (.slice none 0 0) 0 (fun _ => 0) r _ (by first | omega | (simp; done) | (simp; omega)) (by omega) (.inl ⟨rfl, rfl⟩) hr hf).mono ?_
  rintro e w1 ⟨g, c, z, rfl, hg, hc, hcm, hb, _, he, hb1, _⟩
  go_wp2_with fail
  go_ret
  exact ⟨g, c, by simp, Blk.rd (L := 0) hb hc he, by omega, by omega, hcm, ((Below.refl w.heap.size w).alloc (Nat.le_refl _) _).trans (hb1.mono (by omega))⟩
set_option maxRecDepth 100000 in
set_option maxHeartbeats 1000000 in
theorem implBitPack18 (r : Nat → Int) (w : World) (hr : ∀ i, i < 256 → 0 ≤ r i ∧ r i < 8380417) (hf : ∀ i, i < 256 → 0 ≤ 131072 - cen (mred (r i)) 8380417 ∧ 131072 - cen (mred (r i)) 8380417 < 262144) :
    Calls Try.prog 17 #[.agg (arr .u32 256 r)] w fun e w' => Bytes' w 576 (pby 18 (fun i => 131072 - cen (mred (r i)) 8380417) 256) e w' := by
  go_enter Try.func17, Try.ntmps17
  go_wp2_with (first | (with_reducible refine at_load 25 _ rfl ?_; refine wpList_load_arr Try.underlying25 iU rfl _ rfl _ rfl (Blk.new w _ _ _ _ rfl) ?_))
  refine (implRing r _).mono ?_
  rintro e w1 ⟨rfl, hb1⟩
  have hB1 := belowChain ((Below.refl w.heap.size w).alloc (Nat.le_refl _) (.cells (arr .u32 256 r) 25)) hb1 (by first | omega | (simp; done) | (simp; omega))
  go_wp2_with fail
  refine (zzBitPack18 r _ hr hf).mono ?_
  rintro e w2 ⟨g, c, rfl, hb, hg, hc, hcm, hb2⟩
  go_wp2_with fail
  go_ret
  exact ⟨g, c, rfl, hb, Nat.le_trans hB1.size hg, hc, hcm, belowChain hB1 hb2 hB1.size⟩

set_option maxRecDepth 100000 in
set_option maxHeartbeats 1000000 in
theorem walkFnBitPack20 (r : Nat → Int) (w : World) (hx : ∀ i, i < 256 → 0 ≤ r i ∧ r i < 4294967296) :
    Calls Try.prog 5 #[.agg (arr .u32 256 r)] w fun e w' => e = .returned (.bool true) ∧ Below w.heap.size w w' := by
  have HX := Lib.hid hx; clear hx
  go_enter Try.func5, Try.ntmps5
  go_wp2_with (first | (with_reducible refine at_load 25 _ rfl ?_; refine wpList_load_arr Try.underlying25 iU rfl _ rfl _ rfl (Blk.new w _ _ _ _ rfl) ?_))
  refine (lwPlain r _ HX.out).mono ?_
  rintro e w1 ⟨rfl, hb1⟩
  have f0 := Blk.below (Blk.new w .u32 256 r 25 rfl) hb1
  have hB1 := belowChain ((Below.refl w.heap.size w).alloc (Nat.le_refl _) (.cells (arr .u32 256 r) 25)) hb1 (by first | omega | (simp; done) | (simp; omega))
  have hs1 := f0.lt
  clear hb1
  go_wp2_with (first | (with_reducible refine at_store 28 _ _ rfl ?_; refine wpList_store_arr iP rfl _ _ rfl _ rfl rfl (Blk.new _ _ _ _ _ rfl) ?_))
  have g0 := (f0.alloc (.cells (arr .i64 256 (fun _ => 0)) 28)).rowOther w1.heap.size (arr .i64 256 (fun i => mred (r i))) (by first | omega | (simp; done) | (simp; omega))
  have ga := (Blk.new w1 .i64 256 (fun _ => 0) 28 rfl).row .i64 (fun i => mred (r i))
  have hB2 := below_setRow (hB1.alloc (by first | omega | (simp; done) | (simp; omega)) (.cells (arr .i64 256 (fun _ => 0)) 28)) (g := w1.heap.size) (by first | omega | (simp; done) | (simp; omega)) (arr .i64 256 (fun i => mred (r i)))
  cases hrx : redB r with
  | false =>
    refine wp_region_below (by kernel_rfl) (by kernel_rfl) ?_
    repeat (first | go_big_quiet_skip | (go_big_quiet_want; go_big_quiet_op; first | go_big_quiet_on | (apply Exists.intro; refine ⟨fun _ _ => rfl, ?_⟩; go_big_quiet_on)))
    refine wpQuiet_nil ?_
    intro w3 hb3
    go_wp2_with fail
    go_ret
    exact ⟨rfl, belowChain hB2 hb3 (by first | omega | (simp; done) | (simp; omega))⟩
  | true =>
    have QX := Lib.hid (fun i (hi : i < 256) => And.intro (HX.out i hi).1 (redB_true hrx i hi))
    clear hrx
    cases hwi : withB (fun i => mred (r i)) 524287 524288 with
    | false =>
      refine wp_region_below (by kernel_rfl) (by kernel_rfl) ?_
      (first | go_big_quiet_skip | (go_big_quiet_want; go_big_quiet_op; first | go_big_quiet_on | (apply Exists.intro; refine ⟨fun _ _ => rfl, ?_⟩; go_big_quiet_on)))
      (first | go_big_quiet_skip | (go_big_quiet_want; go_big_quiet_op; first | go_big_quiet_on | (apply Exists.intro; refine ⟨fun _ _ => rfl, ?_⟩; go_big_quiet_on)))
      (first | go_big_quiet_skip | (go_big_quiet_want; go_big_quiet_op; first | go_big_quiet_on | (apply Exists.intro; refine ⟨fun _ _ => rfl, ?_⟩; go_big_quiet_on)))
      (refine BigFrame.wpQuiet_want rfl (fun K hK => ?_); refine quiet_load_arr Try.underlying28 iP _ rfl _ rfl (fun w' hw' => Blk.below (ga) hw') (hK _ ?_); clear hK K; simp only [Act.put, List.setIfInBounds_toArray, List.set_cons_zero, List.set_cons_succ])
      go_big_quiet_step ((intro hw'; go_at_call 14; exact Calls.in_below hw' (lwWithin _ 524287 524288 _ (by omega) (by omega) (by omega) (by omega) (fun i _ => ⟨mred_lo _, mred_hi _⟩))))
      rw [hwi]
      repeat (first | go_big_quiet_skip | (go_big_quiet_want; go_big_quiet_op; first | go_big_quiet_on | (apply Exists.intro; refine ⟨fun _ _ => rfl, ?_⟩; go_big_quiet_on)))
      refine wpQuiet_nil ?_
      intro w3 hb3
      go_wp2_with fail
      go_ret
      exact ⟨rfl, belowChain hB2 hb3 (by first | omega | (simp; done) | (simp; omega))⟩
    | true =>
      have HF := Lib.hid (show ∀ i, i < 256 → 0 ≤ 524288 - cen (mred (r i)) 8380417 ∧ 524288 - cen (mred (r i)) 8380417 < 1048576 from fun i hi => by have := withB_true hwi i hi; omega)
      refine wp_region_held_seq (C := Abv _) 8 [8, 10] [9, 11, 12, 13] (by kernel_rfl) (by kernel_rfl) (fun _ _ d _ _ h => by cases d <;> exact h) (abv_drawn _) (by kernel_rfl) ?_
      simp only [List.take_succ_cons, List.take_zero, List.cons_append, List.nil_append, opsAt, List.filterMap_cons, List.filterMap_nil, List.getElem?_toArray, List.getElem?_cons_succ, List.getElem?_cons_zero]
      (first | go_big_quiet_skip | (go_big_quiet_want; go_big_quiet_op; first | go_big_quiet_on | (apply Exists.intro; refine ⟨fun _ _ => rfl, ?_⟩; go_big_quiet_on)))
      (first | go_big_quiet_skip | (go_big_quiet_want; go_big_quiet_op; first | go_big_quiet_on | (apply Exists.intro; refine ⟨fun _ _ => rfl, ?_⟩; go_big_quiet_on)))
      (first | go_big_quiet_skip | (go_big_quiet_want; go_big_quiet_op; first | go_big_quiet_on | (apply Exists.intro; refine ⟨fun _ _ => rfl, ?_⟩; go_big_quiet_on)))
      (refine BigFrame.wpQuiet_want rfl (fun K hK => ?_); refine quiet_load_arr Try.underlying28 iP _ rfl _ rfl (fun w' hw' => Blk.below (ga) hw') (hK _ ?_); clear hK K; simp only [Act.put, List.setIfInBounds_toArray, List.set_cons_zero, List.set_cons_succ])
      go_big_quiet_step ((intro hw'; go_at_call 14; exact Calls.in_below hw' (lwWithin _ 524287 524288 _ (by omega) (by omega) (by omega) (by omega) (fun i _ => ⟨mred_lo _, mred_hi _⟩))))
      rw [hwi]
      (first | go_big_quiet_skip | (go_big_quiet_want; go_big_quiet_op; first | go_big_quiet_on | (apply Exists.intro; refine ⟨fun _ _ => rfl, ?_⟩; go_big_quiet_on)))
      (first | go_big_quiet_skip | (go_big_quiet_want; go_big_quiet_op; first | go_big_quiet_on | (apply Exists.intro; refine ⟨fun _ _ => rfl, ?_⟩; go_big_quiet_on)))
      (first | go_big_quiet_skip | (go_big_quiet_want; go_big_quiet_op; first | go_big_quiet_on | (apply Exists.intro; refine ⟨fun _ _ => rfl, ?_⟩; go_big_quiet_on)))
      (refine BigFrame.wpQuiet_want rfl (fun K hK => ?_); refine quiet_load_arr Try.underlying25 iU _ rfl _ rfl (fun w' hw' => Blk.below (g0) hw') (hK _ ?_); clear hK K; simp only [Act.put, List.setIfInBounds_toArray, List.set_cons_zero, List.set_cons_succ])
      (refine BigFrame.wpQuiet_want rfl (fun K hK => ?_); refine quiet_load_arr Try.underlying25 iU _ rfl _ rfl (fun w' hw' => Blk.below (g0) hw') (hK _ ?_); clear hK K; simp only [Act.put, List.setIfInBounds_toArray, List.set_cons_zero, List.set_cons_succ])
      refine wpQuiet_nil ?_
      intro w3 hb3
      refine seqH_call _ rfl rfl 16 _ _ rfl (by kernel_rfl) #[.agg (arr .u32 256 r)] (by simp only [List.map_toArray, List.map_cons, List.map_nil]; rfl) ?_
      refine (implBitPack20 r _ QX.out HF.out).mono ?_
      rintro e w4 ⟨g, c, rfl, hb, hg, hc, hcm, hb4⟩
      refine ⟨_, rfl, Below.trans hb3 (hb4.mono hb3.size), ?_⟩
      have hb5 := Below.trans hb3 (hb4.mono hb3.size)
      simp only [List.getElem_toArray, List.getElem_cons_succ, List.getElem_cons_zero, Act.put, List.setIfInBounds_toArray, List.set_cons_zero, List.set_cons_succ]
      refine seqH_call _ rfl rfl 15 _ _ rfl (by kernel_rfl) #[.slice (some ⟨g, 0, none⟩) 640 c, .agg (arr .u32 256 r), .int .i64 524287, .int .i64 524288] (by simp only [List.map_toArray, List.map_cons, List.map_nil]; rfl) ?_
      refine (lwPacks ⟨g, 0, none⟩ c _ r 20 1048575 524287 524288 _ (by rfl) (by decide) blen_20 (by omega) (by omega) (by omega) (by omega) (by omega) (by omega) QX.out hwi (by decide) hb (fun _ _ => rfl)).mono ?_
      rintro e w6 ⟨rfl, hb6⟩
      refine ⟨_, rfl, Below.trans hb5 (hb6.mono hb5.size), ?_⟩
      simp only [List.getElem_toArray, List.getElem_cons_succ, List.getElem_cons_zero, Act.put, List.setIfInBounds_toArray, List.set_cons_zero, List.set_cons_succ]
      refine seqH_still [12, 13] (r := []) (by kernel_rfl) (Below.trans hb5 (hb6.mono hb5.size)) ?_
      simp only [opsAt, List.filterMap_cons, List.filterMap_nil, List.getElem?_toArray, List.getElem?_cons_succ, List.getElem?_cons_zero]
      change wpQuiet _ _ _ _ (_ :: _ :: []) _
      repeat (first | go_big_quiet_skip | (go_big_quiet_want; go_big_quiet_op; first | go_big_quiet_on | (apply Exists.intro; refine ⟨fun _ _ => rfl, ?_⟩; go_big_quiet_on)))
      refine wpQuiet_nil ?_
      intro w7 hb7
      refine seqH_nil ?_
      go_wp2_with fail
      go_ret
      exact ⟨rfl, belowChain hB2 hb7 (by first | omega | (simp; done) | (simp; omega))⟩

set_option maxRecDepth 100000 in
set_option maxHeartbeats 1000000 in
theorem walkFnBitPack18 (r : Nat → Int) (w : World) (hx : ∀ i, i < 256 → 0 ≤ r i ∧ r i < 4294967296) :
    Calls Try.prog 6 #[.agg (arr .u32 256 r)] w fun e w' => e = .returned (.bool true) ∧ Below w.heap.size w w' := by
  have HX := Lib.hid hx; clear hx
  go_enter Try.func6, Try.ntmps6
  go_wp2_with (first | (with_reducible refine at_load 25 _ rfl ?_; refine wpList_load_arr Try.underlying25 iU rfl _ rfl _ rfl (Blk.new w _ _ _ _ rfl) ?_))
  refine (lwPlain r _ HX.out).mono ?_
  rintro e w1 ⟨rfl, hb1⟩
  have f0 := Blk.below (Blk.new w .u32 256 r 25 rfl) hb1
  have hB1 := belowChain ((Below.refl w.heap.size w).alloc (Nat.le_refl _) (.cells (arr .u32 256 r) 25)) hb1 (by first | omega | (simp; done) | (simp; omega))
  have hs1 := f0.lt
  clear hb1
  go_wp2_with (first | (with_reducible refine at_store 28 _ _ rfl ?_; refine wpList_store_arr iP rfl _ _ rfl _ rfl rfl (Blk.new _ _ _ _ _ rfl) ?_))
  have g0 := (f0.alloc (.cells (arr .i64 256 (fun _ => 0)) 28)).rowOther w1.heap.size (arr .i64 256 (fun i => mred (r i))) (by first | omega | (simp; done) | (simp; omega))
  have ga := (Blk.new w1 .i64 256 (fun _ => 0) 28 rfl).row .i64 (fun i => mred (r i))
  have hB2 := below_setRow (hB1.alloc (by first | omega | (simp; done) | (simp; omega)) (.cells (arr .i64 256 (fun _ => 0)) 28)) (g := w1.heap.size) (by first | omega | (simp; done) | (simp; omega)) (arr .i64 256 (fun i => mred (r i)))
  cases hrx : redB r with
  | false =>
    refine wp_region_below (by kernel_rfl) (by kernel_rfl) ?_
    repeat (first | go_big_quiet_skip | (go_big_quiet_want; go_big_quiet_op; first | go_big_quiet_on | (apply Exists.intro; refine ⟨fun _ _ => rfl, ?_⟩; go_big_quiet_on)))
    refine wpQuiet_nil ?_
    intro w3 hb3
    go_wp2_with fail
    go_ret
    exact ⟨rfl, belowChain hB2 hb3 (by first | omega | (simp; done) | (simp; omega))⟩
  | true =>
    have QX := Lib.hid (fun i (hi : i < 256) => And.intro (HX.out i hi).1 (redB_true hrx i hi))
    clear hrx
    cases hwi : withB (fun i => mred (r i)) 131071 131072 with
    | false =>
      refine wp_region_below (by kernel_rfl) (by kernel_rfl) ?_
      (first | go_big_quiet_skip | (go_big_quiet_want; go_big_quiet_op; first | go_big_quiet_on | (apply Exists.intro; refine ⟨fun _ _ => rfl, ?_⟩; go_big_quiet_on)))
      (first | go_big_quiet_skip | (go_big_quiet_want; go_big_quiet_op; first | go_big_quiet_on | (apply Exists.intro; refine ⟨fun _ _ => rfl, ?_⟩; go_big_quiet_on)))
      (first | go_big_quiet_skip | (go_big_quiet_want; go_big_quiet_op; first | go_big_quiet_on | (apply Exists.intro; refine ⟨fun _ _ => rfl, ?_⟩; go_big_quiet_on)))
      (refine BigFrame.wpQuiet_want rfl (fun K hK => ?_); refine quiet_load_arr Try.underlying28 iP _ rfl _ rfl (fun w' hw' => Blk.below (ga) hw') (hK _ ?_); clear hK K; simp only [Act.put, List.setIfInBounds_toArray, List.set_cons_zero, List.set_cons_succ])
      go_big_quiet_step ((intro hw'; go_at_call 14; exact Calls.in_below hw' (lwWithin _ 131071 131072 _ (by omega) (by omega) (by omega) (by omega) (fun i _ => ⟨mred_lo _, mred_hi _⟩))))
      rw [hwi]
      repeat (first | go_big_quiet_skip | (go_big_quiet_want; go_big_quiet_op; first | go_big_quiet_on | (apply Exists.intro; refine ⟨fun _ _ => rfl, ?_⟩; go_big_quiet_on)))
      refine wpQuiet_nil ?_
      intro w3 hb3
      go_wp2_with fail
      go_ret
      exact ⟨rfl, belowChain hB2 hb3 (by first | omega | (simp; done) | (simp; omega))⟩
    | true =>
      have HF := Lib.hid (show ∀ i, i < 256 → 0 ≤ 131072 - cen (mred (r i)) 8380417 ∧ 131072 - cen (mred (r i)) 8380417 < 262144 from fun i hi => by have := withB_true hwi i hi; omega)
      refine wp_region_held_seq (C := Abv _) 8 [8, 10] [9, 11, 12, 13] (by kernel_rfl) (by kernel_rfl) (fun _ _ d _ _ h => by cases d <;> exact h) (abv_drawn _) (by kernel_rfl) ?_
      simp only [List.take_succ_cons, List.take_zero, List.cons_append, List.nil_append, opsAt, List.filterMap_cons, List.filterMap_nil, List.getElem?_toArray, List.getElem?_cons_succ, List.getElem?_cons_zero]
      (first | go_big_quiet_skip | (go_big_quiet_want; go_big_quiet_op; first | go_big_quiet_on | (apply Exists.intro; refine ⟨fun _ _ => rfl, ?_⟩; go_big_quiet_on)))
      (first | go_big_quiet_skip | (go_big_quiet_want; go_big_quiet_op; first | go_big_quiet_on | (apply Exists.intro; refine ⟨fun _ _ => rfl, ?_⟩; go_big_quiet_on)))
      (first | go_big_quiet_skip | (go_big_quiet_want; go_big_quiet_op; first | go_big_quiet_on | (apply Exists.intro; refine ⟨fun _ _ => rfl, ?_⟩; go_big_quiet_on)))
      (refine BigFrame.wpQuiet_want rfl (fun K hK => ?_); refine quiet_load_arr Try.underlying28 iP _ rfl _ rfl (fun w' hw' => Blk.below (ga) hw') (hK _ ?_); clear hK K; simp only [Act.put, List.setIfInBounds_toArray, List.set_cons_zero, List.set_cons_succ])
      go_big_quiet_step ((intro hw'; go_at_call 14; exact Calls.in_below hw' (lwWithin _ 131071 131072 _ (by omega) (by omega) (by omega) (by omega) (fun i _ => ⟨mred_lo _, mred_hi _⟩))))
      rw [hwi]
      (first | go_big_quiet_skip | (go_big_quiet_want; go_big_quiet_op; first | go_big_quiet_on | (apply Exists.intro; refine ⟨fun _ _ => rfl, ?_⟩; go_big_quiet_on)))
      (first | go_big_quiet_skip | (go_big_quiet_want; go_big_quiet_op; first | go_big_quiet_on | (apply Exists.intro; refine ⟨fun _ _ => rfl, ?_⟩; go_big_quiet_on)))
      (first | go_big_quiet_skip | (go_big_quiet_want; go_big_quiet_op; first | go_big_quiet_on | (apply Exists.intro; refine ⟨fun _ _ => rfl, ?_⟩; go_big_quiet_on)))
      (refine BigFrame.wpQuiet_want rfl (fun K hK => ?_); refine quiet_load_arr Try.underlying25 iU _ rfl _ rfl (fun w' hw' => Blk.below (g0) hw') (hK _ ?_); clear hK K; simp only [Act.put, List.setIfInBounds_toArray, List.set_cons_zero, List.set_cons_succ])
      (refine BigFrame.wpQuiet_want rfl (fun K hK => ?_); refine quiet_load_arr Try.underlying25 iU _ rfl _ rfl (fun w' hw' => Blk.below (g0) hw') (hK _ ?_); clear hK K; simp only [Act.put, List.setIfInBounds_toArray, List.set_cons_zero, List.set_cons_succ])
      refine wpQuiet_nil ?_
      intro w3 hb3
      refine seqH_call _ rfl rfl 17 _ _ rfl (by kernel_rfl) #[.agg (arr .u32 256 r)] (by simp only [List.map_toArray, List.map_cons, List.map_nil]; rfl) ?_
      refine (implBitPack18 r _ QX.out HF.out).mono ?_
      rintro e w4 ⟨g, c, rfl, hb, hg, hc, hcm, hb4⟩
      refine ⟨_, rfl, Below.trans hb3 (hb4.mono hb3.size), ?_⟩
      have hb5 := Below.trans hb3 (hb4.mono hb3.size)
      simp only [List.getElem_toArray, List.getElem_cons_succ, List.getElem_cons_zero, Act.put, List.setIfInBounds_toArray, List.set_cons_zero, List.set_cons_succ]
      refine seqH_call _ rfl rfl 15 _ _ rfl (by kernel_rfl) #[.slice (some ⟨g, 0, none⟩) 576 c, .agg (arr .u32 256 r), .int .i64 131071, .int .i64 131072] (by simp only [List.map_toArray, List.map_cons, List.map_nil]; rfl) ?_
      refine (lwPacks ⟨g, 0, none⟩ c _ r 18 262143 131071 131072 _ (by rfl) (by decide) blen_18 (by omega) (by omega) (by omega) (by omega) (by omega) (by omega) QX.out hwi (by decide) hb (fun _ _ => rfl)).mono ?_
      rintro e w6 ⟨rfl, hb6⟩
      refine ⟨_, rfl, Below.trans hb5 (hb6.mono hb5.size), ?_⟩
      simp only [List.getElem_toArray, List.getElem_cons_succ, List.getElem_cons_zero, Act.put, List.setIfInBounds_toArray, List.set_cons_zero, List.set_cons_succ]
      refine seqH_still [12, 13] (r := []) (by kernel_rfl) (Below.trans hb5 (hb6.mono hb5.size)) ?_
      simp only [opsAt, List.filterMap_cons, List.filterMap_nil, List.getElem?_toArray, List.getElem?_cons_succ, List.getElem?_cons_zero]
      change wpQuiet _ _ _ _ (_ :: _ :: []) _
      repeat (first | go_big_quiet_skip | (go_big_quiet_want; go_big_quiet_op; first | go_big_quiet_on | (apply Exists.intro; refine ⟨fun _ _ => rfl, ?_⟩; go_big_quiet_on)))
      refine wpQuiet_nil ?_
      intro w7 hb7
      refine seqH_nil ?_
      go_wp2_with fail
      go_ret
      exact ⟨rfl, belowChain hB2 hb7 (by first | omega | (simp; done) | (simp; omega))⟩

end Go.Proofs.Ytejolgicllogjaa
