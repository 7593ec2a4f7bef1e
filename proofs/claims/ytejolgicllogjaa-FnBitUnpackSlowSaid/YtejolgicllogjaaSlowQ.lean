/-
  Packing by a number of bits that is told: the law.
-/
import Derived.Test.YtejolgicllogjaaSlowP
namespace Go.Proofs.Ytejolgicllogjaa
open Go.RowKit

theorem blen_hi (f n : Nat) (h : n < 2 ^ f) : n < 2 ^ blen f n := by
  induction f generalizing n with
  | zero => simpa [blen] using h
  | succ f ih =>
    rw [blen]
    split
    · rename_i e; subst e; simp
    · have := ih (n / 2) (by rw [Nat.pow_succ] at h; omega)
      rw [Nat.pow_succ]
      omega
theorem blen_top (f n k : Nat) (h : n < 2 ^ k) : blen f n ≤ k := by
  induction f generalizing n k with
  | zero => simp [blen]
  | succ f ih =>
    rw [blen]
    split
    · omega
    · cases k with
      | zero => simp at h; omega
      | succ k =>
        have := ih (n / 2) k (by rw [Nat.pow_succ] at h; omega)
        omega
theorem blen_one (f n : Nat) (h : n ≠ 0) : 1 ≤ blen (f + 1) n := by rw [blen, if_neg h]; omega

theorem lwEnds (a t : Int) (w : World) (a0 : 0 ≤ a) (a1 : a < 65536) (t0 : 0 ≤ t) (t1 : t < 65536) :
    Calls Try.prog 18 #[.int .u16 a, .int .u16 t] w fun e w' => e = .returned (.tuple #[.int .i64 (a % 8192), .int .i64 (1 + t % 8191)]) ∧ w = w' := by
  go_enter Try.func18, Try.ntmps18
  go_wp2
  go_ret2
  exact ⟨rfl, rfl⟩

set_option maxRecDepth 100000 in
set_option maxHeartbeats 1000000 in
theorem zzPackSlow (r : Nat → Int) (a t : Int) (D : Nat) (w : World) (a0 : 0 ≤ a) (a1 : a ≤ 8191) (t0 : 1 ≤ t) (t1 : t ≤ 8191) (hD : D = blen 62 (a + t).toNat) (hD0 : 1 ≤ D) (hD1 : D ≤ 14) (hr : ∀ i, i < 256 → 0 ≤ r i ∧ r i < 8380417) (hf : ∀ i, i < 256 → 0 ≤ t - cen (mred (r i)) 8380417 ∧ t - cen (mred (r i)) 8380417 < 2 ^ D) (h16 : ∀ i, i < 256 → t - cen (mred (r i)) 8380417 < 16384) :
    Calls Try.prog 38 #[.slice none 0 0, .agg (arr .u32 256 r), .int .i64 a, .int .i64 t] w fun e w' => Bytes' w (32 * D) (pby D (fun i => t - cen (mred (r i)) 8380417) 256) e w' := by
  have HD := Lib.hid hD; clear hD
  go_enter Try.func38, Try.ntmps38
  go_wp2_with (first | (with_reducible refine at_load 50 _ rfl ?_; refine wpList_load_arr Try.underlying50 iR rfl _ rfl _ rfl (Blk.new w _ _ _ _ rfl) ?_))
  refine (packSlow (w.heap.size + 1) (.slice none 0 0) 0 D a t (fun _ => 0) r _ (by first | omega | (simp; done) | (simp; omega)) (by omega) a0 a1 t0 t1 HD.out hD0 hD1 (.inl ⟨rfl, rfl⟩) hr hf h16).mono ?_
  rintro e w1 ⟨g, c, z, rfl, hg, hc, hcm, hb, _, he, hb1, _⟩
  go_wp2_with fail
  go_ret
  exact ⟨g, c, by simp, Blk.rd (L := 0) hb hc he, by omega, by omega, hcm, ((Below.refl w.heap.size w).alloc (Nat.le_refl _) _).trans (hb1.mono (by omega))⟩
set_option maxRecDepth 100000 in
set_option maxHeartbeats 1000000 in
theorem implPackSlow (r : Nat → Int) (a t : Int) (D : Nat) (w : World) (a0 : 0 ≤ a) (a1 : a ≤ 8191) (t0 : 1 ≤ t) (t1 : t ≤ 8191) (hD : D = blen 62 (a + t).toNat) (hD0 : 1 ≤ D) (hD1 : D ≤ 14) (hr : ∀ i, i < 256 → 0 ≤ r i ∧ r i < 8380417) (hf : ∀ i, i < 256 → 0 ≤ t - cen (mred (r i)) 8380417 ∧ t - cen (mred (r i)) 8380417 < 2 ^ D) (h16 : ∀ i, i < 256 → t - cen (mred (r i)) 8380417 < 16384) :
    Calls Try.prog 22 #[.agg (arr .u32 256 r), .int .i64 a, .int .i64 t] w fun e w' => Bytes' w (32 * D) (pby D (fun i => t - cen (mred (r i)) 8380417) 256) e w' := by
  have HD := Lib.hid hD; clear hD
  go_enter Try.func22, Try.ntmps22
  go_wp2_with (first | (with_reducible refine at_load 25 _ rfl ?_; refine wpList_load_arr Try.underlying25 iU rfl _ rfl _ rfl (Blk.new w _ _ _ _ rfl) ?_))
  refine (implRing r _).mono ?_
  rintro e w1 ⟨rfl, hb1⟩
  have hB1 := belowChain ((Below.refl w.heap.size w).alloc (Nat.le_refl _) (.cells (arr .u32 256 r) 25)) hb1 (by first | omega | (simp; done) | (simp; omega))
  go_wp2_with fail
  refine (zzPackSlow r a t D _ a0 a1 t0 t1 HD.out hD0 hD1 hr hf h16).mono ?_
  rintro e w2 ⟨g, c, rfl, hb, hg, hc, hcm, hb2⟩
  go_wp2_with fail
  go_ret
  exact ⟨g, c, rfl, hb, Nat.le_trans hB1.size hg, hc, hcm, belowChain hB1 hb2 hB1.size⟩

set_option maxRecDepth 100000 in
set_option maxHeartbeats 1000000 in
theorem walkFnBitPackSlow (r : Nat → Int) (a t : Int) (w : World) (hx : ∀ i, i < 256 → 0 ≤ r i ∧ r i < 4294967296) (a0 : 0 ≤ a) (a1 : a < 65536) (t0 : 0 ≤ t) (t1 : t < 65536) :
    Calls Try.prog 8 #[.agg (arr .u32 256 r), .int .u16 a, .int .u16 t] w fun e w' => e = .returned (.bool true) ∧ Below w.heap.size w w' := by
  have HX := Lib.hid hx; clear hx
  go_enter Try.func8, Try.ntmps8
  go_wp2_with fail
  refine (lwEnds a t _ a0 a1 t0 t1).mono ?_
  rintro e w' ⟨rfl, rfl⟩
  obtain ⟨A, hA⟩ : ∃ A, A = a % 8192 := ⟨_, rfl⟩
  obtain ⟨T, hT⟩ : ∃ T, T = 1 + t % 8191 := ⟨_, rfl⟩
  rw [← hA, ← hT]
  have A0 : 0 ≤ A := by omega
  have A1 : A ≤ 8191 := by omega
  have T0 : 1 ≤ T := by omega
  have T1 : T ≤ 8191 := by omega
  clear hA hT a0 a1 t0 t1
  go_wp2_with (first | (with_reducible refine at_load 25 _ rfl ?_; refine wpList_load_arr Try.underlying25 iU rfl _ rfl _ rfl (Blk.new w _ _ _ _ rfl) ?_))
  refine (lwPlain r _ HX.out).mono ?_
  rintro e w1 ⟨rfl, hb1⟩
  have f0 := Blk.below (Blk.new w .u32 256 r 25 rfl) hb1
  have hB1 := belowChain ((Below.refl w.heap.size w).alloc (Nat.le_refl _) (.cells (arr .u32 256 r) 25)) hb1 (by first | omega | (simp; done) | (simp; omega))
  have hs1 := f0.lt
  clear hb1
  go_wp2_with (first | (with_reducible refine at_store 28 _ _ rfl ?_; refine wpList_store_arr iP rfl _ _ rfl _ rfl rfl (Blk.new _ _ _ _ _ rfl) ?_))
  have g0 := (f0.alloc (.cells (arr .i64 256 (fun _ => 0)) 28)).rowOther w1.heap.size (arr .i64 256 (fun i => mred (r i))) (by first | omega | (simp; done) | (simp; omega))
  have ga := (Blk.new w1 .i64 256 (fun _ => 0) 28 rfl).row .i64 (fun i => mred (r i))
  have hB2 := below_setRow (hB1.alloc (by first | omega | (simp; done) | (simp; omega)) (.cells (arr .i64 256 (fun _ => 0)) 28)) (g := w1.heap.size) (by first | omega | (simp; done) | (simp; omega)) (arr .i64 256 (fun i => mred (r i)))
  cases hrx : redB r with
  | false =>
    refine wp_region_below (by kernel_rfl) (by kernel_rfl) ?_
    repeat (first | go_big_quiet_skip | (go_big_quiet_want; go_big_quiet_op; first | go_big_quiet_on | (apply Exists.intro; refine ⟨fun _ _ => rfl, ?_⟩; go_big_quiet_on)))
    refine wpQuiet_nil ?_
    intro w3 hb3
    go_wp2_with fail
    go_ret
    exact ⟨rfl, belowChain hB2 hb3 (by first | omega | (simp; done) | (simp; omega))⟩
  | true =>
    have QX := Lib.hid (fun i (hi : i < 256) => And.intro (HX.out i hi).1 (redB_true hrx i hi))
    clear hrx
    cases hwi : withB (fun i => mred (r i)) A T with
    | false =>
      refine wp_region_below (by kernel_rfl) (by kernel_rfl) ?_
      (first | go_big_quiet_skip | (go_big_quiet_want; go_big_quiet_op; first | go_big_quiet_on | (apply Exists.intro; refine ⟨fun _ _ => rfl, ?_⟩; go_big_quiet_on)))
      (first | go_big_quiet_skip | (go_big_quiet_want; go_big_quiet_op; first | go_big_quiet_on | (apply Exists.intro; refine ⟨fun _ _ => rfl, ?_⟩; go_big_quiet_on)))
      (first | go_big_quiet_skip | (go_big_quiet_want; go_big_quiet_op; first | go_big_quiet_on | (apply Exists.intro; refine ⟨fun _ _ => rfl, ?_⟩; go_big_quiet_on)))
      (refine BigFrame.wpQuiet_want rfl (fun K hK => ?_); refine quiet_load_arr Try.underlying28 iP _ rfl _ rfl (fun w' hw' => Blk.below (ga) hw') (hK _ ?_); clear hK K; simp only [Act.put, List.setIfInBounds_toArray, List.set_cons_zero, List.set_cons_succ])
      (first | go_big_quiet_skip | (go_big_quiet_want; go_big_quiet_op; first | go_big_quiet_on | (apply Exists.intro; refine ⟨fun _ _ => rfl, ?_⟩; go_big_quiet_on)))
      (first | go_big_quiet_skip | (go_big_quiet_want; go_big_quiet_op; first | go_big_quiet_on | (apply Exists.intro; refine ⟨fun _ _ => rfl, ?_⟩; go_big_quiet_on)))
      go_big_quiet_step ((intro hw'; go_at_call 14; exact Calls.in_below hw' (lwWithin _ A T _ (by omega) (by omega) (by omega) (by omega) (fun i _ => ⟨mred_lo _, mred_hi _⟩))))
      rw [hwi]
      repeat (first | go_big_quiet_skip | (go_big_quiet_want; go_big_quiet_op; first | go_big_quiet_on | (apply Exists.intro; refine ⟨fun _ _ => rfl, ?_⟩; go_big_quiet_on)))
      refine wpQuiet_nil ?_
      intro w3 hb3
      go_wp2_with fail
      go_ret
      exact ⟨rfl, belowChain hB2 hb3 (by first | omega | (simp; done) | (simp; omega))⟩
    | true =>
      obtain ⟨N, hN⟩ : ∃ N : Nat, (N : Int) = A + T := ⟨(A + T).toNat, by omega⟩
      obtain ⟨D, hD⟩ : ∃ D, D = blen 62 (A + T).toNat := ⟨_, rfl⟩
      have hNt : (A + T).toNat = N := by omega
      have hDN : blen 62 N = D := by rw [hD, hNt]
      have hN2 : N < 2 ^ D := by rw [← hDN]; exact blen_hi 62 N (by omega)
      have hN2' : (N : Int) < 2 ^ D := by have := Int.ofNat_lt.2 hN2; rw [Int.natCast_pow] at this; exact this
      have hD0 : 1 ≤ D := by rw [← hDN]; exact blen_one 61 N (by omega)
      have hD1 : D ≤ 14 := by rw [← hDN]; exact blen_top 62 N 14 (by omega)
      have HD := Lib.hid hD; have HDN := Lib.hid hDN; have HN2 := Lib.hid hN2'; clear hD hDN hN2 hN2' hNt
      have HF := Lib.hid (show ∀ i, i < 256 → 0 ≤ T - cen (mred (r i)) 8380417 ∧ T - cen (mred (r i)) 8380417 < 2 ^ D from fun i hi => by have := withB_true hwi i hi; have := HN2.out; omega)
      have H16 := Lib.hid (show ∀ i, i < 256 → T - cen (mred (r i)) 8380417 < 16384 from fun i hi => by have := withB_true hwi i hi; omega)
      have HN := Lib.hid hN; clear hN
      refine wp_region_held_seq (C := Abv _) 10 [10, 11, 12, 14, 15, 16] [13, 17, 18, 19] (by kernel_rfl) (by kernel_rfl) (fun _ _ d _ _ h => by cases d <;> exact h) (abv_drawn _) (by kernel_rfl) ?_
      simp only [List.take_succ_cons, List.take_zero, List.cons_append, List.nil_append, opsAt, List.filterMap_cons, List.filterMap_nil, List.getElem?_toArray, List.getElem?_cons_succ, List.getElem?_cons_zero]
      (first | go_big_quiet_skip | (go_big_quiet_want; go_big_quiet_op; first | go_big_quiet_on | (apply Exists.intro; refine ⟨fun _ _ => rfl, ?_⟩; go_big_quiet_on)))
      (first | go_big_quiet_skip | (go_big_quiet_want; go_big_quiet_op; first | go_big_quiet_on | (apply Exists.intro; refine ⟨fun _ _ => rfl, ?_⟩; go_big_quiet_on)))
      (first | go_big_quiet_skip | (go_big_quiet_want; go_big_quiet_op; first | go_big_quiet_on | (apply Exists.intro; refine ⟨fun _ _ => rfl, ?_⟩; go_big_quiet_on)))
      (refine BigFrame.wpQuiet_want rfl (fun K hK => ?_); refine quiet_load_arr Try.underlying28 iP _ rfl _ rfl (fun w' hw' => Blk.below (ga) hw') (hK _ ?_); clear hK K; simp only [Act.put, List.setIfInBounds_toArray, List.set_cons_zero, List.set_cons_succ])
      (first | go_big_quiet_skip | (go_big_quiet_want; go_big_quiet_op; first | go_big_quiet_on | (apply Exists.intro; refine ⟨fun _ _ => rfl, ?_⟩; go_big_quiet_on)))
      (first | go_big_quiet_skip | (go_big_quiet_want; go_big_quiet_op; first | go_big_quiet_on | (apply Exists.intro; refine ⟨fun _ _ => rfl, ?_⟩; go_big_quiet_on)))
      go_big_quiet_step ((intro hw'; go_at_call 14; exact Calls.in_below hw' (lwWithin _ A T _ (by omega) (by omega) (by omega) (by omega) (fun i _ => ⟨mred_lo _, mred_hi _⟩))))
      rw [hwi]
      (first | go_big_quiet_skip | (go_big_quiet_want; go_big_quiet_op; first | go_big_quiet_on | (apply Exists.intro; refine ⟨fun _ _ => rfl, ?_⟩; go_big_quiet_on)))
      (first | go_big_quiet_skip | (go_big_quiet_want; go_big_quiet_op; first | go_big_quiet_on | (apply Exists.intro; refine ⟨fun _ _ => rfl, ?_⟩; go_big_quiet_on)))
      (first | go_big_quiet_skip | (go_big_quiet_want; go_big_quiet_op; first | go_big_quiet_on | (apply Exists.intro; refine ⟨fun _ _ => rfl, ?_⟩; go_big_quiet_on)))
      change wpQuiet _ _ _ _ (_ :: _ :: _ :: _ :: _ :: _ :: []) _
      (refine BigFrame.wpQuiet_want rfl (fun K hK => ?_); refine quiet_load_arr Try.underlying25 iU _ rfl _ rfl (fun w' hw' => Blk.below (g0) hw') (hK _ ?_); clear hK K; simp only [Act.put, List.setIfInBounds_toArray, List.set_cons_zero, List.set_cons_succ])
      (first | go_big_quiet_skip | (go_big_quiet_want; go_big_quiet_op; first | go_big_quiet_on | (apply Exists.intro; refine ⟨fun _ _ => rfl, ?_⟩; go_big_quiet_on)))
      (first | go_big_quiet_skip | (go_big_quiet_want; go_big_quiet_op; first | go_big_quiet_on | (apply Exists.intro; refine ⟨fun _ _ => rfl, ?_⟩; go_big_quiet_on)))
      (refine BigFrame.wpQuiet_want rfl (fun K hK => ?_); refine quiet_load_arr Try.underlying25 iU _ rfl _ rfl (fun w' hw' => Blk.below (g0) hw') (hK _ ?_); clear hK K; simp only [Act.put, List.setIfInBounds_toArray, List.set_cons_zero, List.set_cons_succ])
      (first | go_big_quiet_skip | (go_big_quiet_want; go_big_quiet_op; first | go_big_quiet_on | (apply Exists.intro; refine ⟨fun _ _ => rfl, ?_⟩; go_big_quiet_on)))
      (first | go_big_quiet_skip | (go_big_quiet_want; go_big_quiet_op; first | go_big_quiet_on | (apply Exists.intro; refine ⟨fun _ _ => rfl, ?_⟩; go_big_quiet_on)))
      refine wpQuiet_nil ?_
      intro w3 hb3
      refine seqH_call _ rfl rfl 22 _ _ rfl (by kernel_rfl) #[.agg (arr .u32 256 r), .int .i64 A, .int .i64 T] (by simp only [List.map_toArray, List.map_cons, List.map_nil]; rfl) ?_
      refine (implPackSlow r A T D _ A0 A1 T0 T1 HD.out hD0 hD1 QX.out HF.out H16.out).mono ?_
      rintro e w4 ⟨g, c, rfl, hb, hg, hc, hcm, hb4⟩
      refine ⟨_, rfl, Below.trans hb3 (hb4.mono hb3.size), ?_⟩
      have hb5 := Below.trans hb3 (hb4.mono hb3.size)
      simp only [List.getElem_toArray, List.getElem_cons_succ, List.getElem_cons_zero, Act.put, List.setIfInBounds_toArray, List.set_cons_zero, List.set_cons_succ]
      refine seqH_call _ rfl rfl 15 _ _ rfl (by kernel_rfl) #[.slice (some ⟨g, 0, none⟩) (32 * D) c, .agg (arr .u32 256 r), .int .i64 A, .int .i64 T] (by simp only [List.map_toArray, List.map_cons, List.map_nil]; rfl) ?_
      refine (lwPacks ⟨g, 0, none⟩ c _ r D N A T _ HN.out.symm (by have := HN.out; omega) HDN.out (by omega) (by omega) (by omega) (by omega) (by omega) (by omega) QX.out hwi HN2.out hb (fun _ _ => rfl)).mono ?_
      rintro e w6 ⟨rfl, hb6⟩
      refine ⟨_, rfl, Below.trans hb5 (hb6.mono hb5.size), ?_⟩
      simp only [List.getElem_toArray, List.getElem_cons_succ, List.getElem_cons_zero, Act.put, List.setIfInBounds_toArray, List.set_cons_zero, List.set_cons_succ]
      refine seqH_still [18, 19] (r := []) (by kernel_rfl) (Below.trans hb5 (hb6.mono hb5.size)) ?_
      simp only [opsAt, List.filterMap_cons, List.filterMap_nil, List.getElem?_toArray, List.getElem?_cons_succ, List.getElem?_cons_zero]
      change wpQuiet _ _ _ _ (_ :: _ :: []) _
      repeat (first | go_big_quiet_skip | (go_big_quiet_want; go_big_quiet_op; first | go_big_quiet_on | (apply Exists.intro; refine ⟨fun _ _ => rfl, ?_⟩; go_big_quiet_on)))
      refine wpQuiet_nil ?_
      intro w7 hb7
      refine seqH_nil ?_
      go_wp2_with fail
      go_ret
      exact ⟨rfl, belowChain hB2 hb7 (by first | omega | (simp; done) | (simp; omega))⟩

end Go.Proofs.Ytejolgicllogjaa
