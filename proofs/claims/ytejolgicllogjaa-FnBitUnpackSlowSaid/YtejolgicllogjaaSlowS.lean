/-
  Unpacking by a number of bits that is told: the law.
-/
import Derived.Test.YtejolgicllogjaaSlowR
import Derived.Test.YtejolgicllogjaaFloat
namespace Go.Proofs.Ytejolgicllogjaa
open Go.RowKit

def UPost (w : World) (ok : Bool) (val : Nat → Int) (e : Ending) (w' : World) : Prop :=
  Below w.heap.size w w' ∧ ∃ F : Nat → Int, e = .returned (.tuple #[.agg (arr .u32 256 F), .bool ok]) ∧ (ok = true → ∀ i, i < 256 → F i = val i)

set_option maxRecDepth 100000 in
set_option maxHeartbeats 1000000 in
theorem zzUnpackSlow (g c D : Nat) (a t : Int) (b : Nat → Int) (w : World) (a0 : 0 ≤ a) (a1 : a ≤ 8191) (t0 : 1 ≤ t) (t1 : t ≤ 8191) (hD : D = blen 62 (a + t).toNat) (hD0 : 1 ≤ D) (hD1 : D ≤ 14) (hc : 32 * D ≤ c) (hcm : c ≤ maxLen)
    (hr : Rd .u8 w ⟨g, 0, none⟩ (32 * D) b) (hb : ∀ i, i < 32 * D → 0 ≤ b i ∧ b i < 256) :
    Calls Try.prog 37 #[.slice (some ⟨g, 0, none⟩) (32 * D) c, .int .i64 a, .int .i64 t] w fun e w' => UnpPost w (okB b D (a + t)) (uvS t D b) e w' := by
  have HD := Lib.hid hD; clear hD
  go_enter Try.func37, Try.ntmps37
  go_wp2_with fail
  refine (unpackSlow g c D a t b _ a0 a1 t0 t1 HD.out hD0 hD1 hc hcm (hr.below ((Below.refl _ _).alloc (Nat.le_refl _) _)) hb).mono ?_
  rintro e w1 ⟨hb1, ⟨hok, rfl⟩ | ⟨hok, ty, v, rfl⟩⟩
  · have f0 := Blk.below (Blk.new w .u32 256 (fun _ => 0) 50 rfl) hb1
    have hB1 := belowChain ((Below.refl w.heap.size w).alloc (Nat.le_refl _) (.cells (arr .u32 256 (fun _ => 0)) 50)) hb1 (by first | omega | (simp; done) | (simp; omega))
    have HOK := Lib.hid hok; clear hok
    go_wp2_with (first | (with_reducible refine at_store 50 _ _ rfl ?_; refine wpList_store_arr iR rfl _ _ rfl _ rfl rfl (f0) ?_))
    exact bodyPost_ret (v := .tuple #[.agg (arr .u32 256 (uvS t D b)), .nilIface]) (results_arr_tmp Try.underlying50 iR rfl _ _ _ _ rfl rfl (f0.row _ _)) rfl ⟨below_setRow hB1 (by first | omega | (simp; done) | (simp; omega)) _, .inl ⟨HOK.out, rfl⟩⟩
  · have f0 := Blk.below (Blk.new w .u32 256 (fun _ => 0) 50 rfl) hb1
    have hB1 := belowChain ((Below.refl w.heap.size w).alloc (Nat.le_refl _) (.cells (arr .u32 256 (fun _ => 0)) 50)) hb1 (by first | omega | (simp; done) | (simp; omega))
    have HOK := Lib.hid hok; clear hok
    go_wp2_with (first | (with_reducible refine at_store 50 _ _ rfl ?_; refine wpList_store_arr iR rfl _ _ rfl _ rfl rfl (f0) ?_))
    exact bodyPost_ret (v := .tuple #[.agg (arr .u32 256 fun _ => 0), .iface ty v]) (results_arr_tmp Try.underlying50 iR rfl _ _ _ _ rfl rfl (f0.row _ _)) rfl ⟨below_setRow hB1 (by first | omega | (simp; done) | (simp; omega)) _, .inr ⟨HOK.out, ty, v, rfl⟩⟩

set_option maxRecDepth 100000 in
set_option maxHeartbeats 1000000 in
theorem implUnpackSlow (x : Addr) (cap D : Nat) (a t : Int) (b : Nat → Int) (w : World) (a0 : 0 ≤ a) (a1 : a ≤ 8191) (t0 : 1 ≤ t) (t1 : t ≤ 8191) (hD : D = blen 62 (a + t).toNat) (hD0 : 1 ≤ D) (hD1 : D ≤ 14) (hr : Rd .u8 w x (32 * D) b) (hb : ∀ i, i < 32 * D → 0 ≤ b i ∧ b i < 256) :
    Calls Try.prog 20 #[.slice (some x) (32 * D) cap, .int .i64 a, .int .i64 t] w fun e w' => UPost w (okB b D (a + t)) (uvS t D b) e w' := by
  have HD := Lib.hid hD; clear hD
  go_enter Try.func20, Try.ntmps20
  go_wp2_with fail
  refine (cloneB x (32 * D) cap b _ (by omega) (by omega) (hr.below ((Below.refl _ _).alloc (Nat.le_refl _) _))).mono ?_
  rintro e w1 ⟨⟨g, c, rfl, hg, hc, hcm, hrd⟩, hb1⟩
  have f0 := Blk.below (Blk.new w .u32 256 (fun _ => 0) 25 rfl) hb1
  have hB1 := belowChain ((Below.refl w.heap.size w).alloc (Nat.le_refl _) (.cells (arr .u32 256 (fun _ => 0)) 25)) hb1 (by first | omega | (simp; done) | (simp; omega))
  clear hb1
  go_wp2_with fail
  refine (zzUnpackSlow g c D a t b _ a0 a1 t0 t1 HD.out hD0 hD1 hc hcm hrd hb).mono ?_
  rintro e w2 ⟨hb2, ⟨hok, rfl⟩ | ⟨hok, ty, v, rfl⟩⟩
  · have f0 := f0.below hb2
    have HOK := Lib.hid hok; clear hok
    have hB2 := belowChain hB1 hb2 hB1.size
    have hs2 := f0.lt
    have f8 := Blk.new w2 .u32 256 (fun _ => 0) 50 rfl
    go_wp2_with (first | (with_reducible refine at_store 50 _ _ rfl ?_; refine wpList_store_arr iR rfl _ _ rfl _ rfl rfl (f8) ?_))
    have f8 := f8.row .u32 (uvS t D b)
    have f0 := (f0.alloc (.cells (arr .u32 256 (fun _ => 0)) 50)).rowOther w2.heap.size (arr .u32 256 (uvS t D b)) (by first | omega | (simp; done) | (simp; omega))
    have hB3 := below_setRow (hB2.alloc hB2.size (.cells (arr .u32 256 (fun _ => 0)) 50)) (g := w2.heap.size) hB2.size (arr .u32 256 (uvS t D b))
    try simp only [Act.put]
    refine wp_region_viaA (fun A a' w' => Below w.heap.size w w' ∧ Blk w' w.heap.size .u32 256 (uvS t D b) 25 ∧ a' = ((((A.put (some 18) (.agg (arr .u32 256 (uvS t D b)))).put (some 20) .nilIface).put (some 21) (.bool true)).put (some 19) (.agg (arr .u32 256 (uvS t D b)))).put (some 7) (.bool true)) ?_ ?_
    · refine wp_region_mids (C := fun w' => Blk w' w2.heap.size .u32 256 (uvS t D b) 50) [0, 2, 3] 3 (by kernel_rfl) (by kernel_rfl) (fun _ _ _ _ _ h => nomatch h.1) f8 (by kernel_rfl) ?_
      simp only [opsAt, List.filterMap_cons, List.filterMap_nil, List.getElem?_toArray, List.getElem?_cons_succ, List.getElem?_cons_zero]
      change wpQuiet _ _ _ _ (_ :: _ :: _ :: []) _
      (refine BigFrame.wpQuiet_want rfl (fun K hK => ?_); refine quiet_load_arr Try.underlying50 iR _ rfl _ rfl (fun w' hw' => hw') (hK _ ?_); clear hK K; simp only [Act.put, List.setIfInBounds_toArray, List.set_cons_zero, List.set_cons_succ])
      (first | go_big_quiet_skip | (go_big_quiet_want; go_big_quiet_op; first | go_big_quiet_on | (apply Exists.intro; refine ⟨fun _ _ => rfl, ?_⟩; go_big_quiet_on)))
      (first | go_big_quiet_skip | (go_big_quiet_want; go_big_quiet_op; first | go_big_quiet_on | (apply Exists.intro; refine ⟨fun _ _ => rfl, ?_⟩; go_big_quiet_on)))
      refine wpQuiet_nil ?_
      have hB3 := hB3.trans ((abv_drawn ((w2.alloc (.cells (arr .u32 256 (fun _ => 0)) 50)).setRow w2.heap.size (arr .u32 256 (uvS t D b)))).mono hB3.size)
      obtain ⟨Wd, hWd⟩ : ∃ Wd : World, Wd = { ((w2.alloc (.cells (arr .u32 256 (fun _ => 0)) 50)).setRow w2.heap.size (arr .u32 256 (uvS t D b)) : World) with drawn := ((w2.alloc (.cells (arr .u32 256 (fun _ => 0)) 50)).setRow w2.heap.size (arr .u32 256 (uvS t D b)) : World).drawn + 1 } := ⟨_, rfl⟩
      rw [← hWd] at hB3 ⊢
      have f0 : Blk Wd w.heap.size .u32 256 (fun _ => 0) 25 := by rw [hWd]; exact f0
      have f8 : Blk Wd w2.heap.size .u32 256 (uvS t D b) 50 := by rw [hWd]; exact f8
      clear hWd
      refine wpAnyH_all (rs := [1]) (by kernel_rfl) (by decide) ?_
      intro i hi
      obtain rfl := mem1 hi
      refine wpOp_call _ rfl rfl 24 _ _ rfl (by kernel_rfl) #[.agg (arr .u32 256 (uvS t D b))] (by simp only [List.map_toArray, List.map_cons, List.map_nil]; rfl) ?_
      refine (implOfRing _ _).mono ?_
      rintro e w3 ⟨rfl, hb3⟩
      have hB4 := belowChain hB3 hb3 hB3.size
      have f0 := f0.below hb3
      have f8 := f8.below hb3
      refine ⟨_, rfl, f8, ?_⟩
      refine wpAnyH_all (rs := [4]) (by kernel_rfl) (by decide) ?_
      intro i hi
      obtain rfl := mem1 hi
      refine wpOp_store_arr _ rfl rfl iU _ _ rfl _ rfl rfl f0 ?_
      refine ⟨f8.rowOther _ _ (Nat.ne_of_gt hs2), ?_⟩
      refine wpAnyH_all (rs := [5]) (by kernel_rfl) (by decide) ?_
      intro i hi
      obtain rfl := mem1 hi
      refine wpOp_assign _ rfl rfl _ rfl ?_
      refine ⟨f8.rowOther _ _ (Nat.ne_of_gt hs2), ?_⟩
      exact wpAnyH_done (by kernel_rfl) ⟨rfl, below_setRow hB4 (Nat.le_refl _) _, f0.row _ _, rfl⟩ _
    rintro a' w3 ⟨hB4, f0, rfl⟩
    simp only [Act.put, List.setIfInBounds_toArray, List.set_cons_zero, List.set_cons_succ]
    go_wp2_with fail
    exact bodyPost_ret (v := .tuple #[.agg (arr .u32 256 (uvS t D b)), .bool true]) (results_arr_tmp Try.underlying25 iU rfl _ _ _ _ rfl rfl f0) rfl ⟨hB4, _, by rw [HOK.out], fun _ _ _ => rfl⟩
  · have f0 := f0.below hb2
    have HOK := Lib.hid hok; clear hok
    have hB2 := belowChain hB1 hb2 hB1.size
    have hs2 := f0.lt
    have f8 := Blk.new w2 .u32 256 (fun _ => 0) 50 rfl
    go_wp2_with (first | (with_reducible refine at_store 50 _ _ rfl ?_; refine wpList_store_arr iR rfl _ _ rfl _ rfl rfl (f8) ?_))
    have f8 := f8.row .u32 (fun _ => 0)
    have f0 := (f0.alloc (.cells (arr .u32 256 (fun _ => 0)) 50)).rowOther w2.heap.size (arr .u32 256 (fun _ => 0)) (by first | omega | (simp; done) | (simp; omega))
    have hB3 := below_setRow (hB2.alloc hB2.size (.cells (arr .u32 256 (fun _ => 0)) 50)) (g := w2.heap.size) hB2.size (arr .u32 256 (fun _ => 0))
    try simp only [Act.put]
    refine wp_region_viaA (fun A a' w' => Below w.heap.size w w' ∧ Blk w' w.heap.size .u32 256 (fun _ => 0) 25 ∧ a' = ((((A.put (some 18) (.agg (arr .u32 256 (fun _ => 0)))).put (some 20) (.iface ty v)).put (some 21) (.bool false)).put (some 19) (.agg (arr .u32 256 (fun _ => 0)))).put (some 7) (.bool false)) ?_ ?_
    · refine wp_region_mids (C := fun w' => Blk w' w2.heap.size .u32 256 (fun _ => 0) 50) [0, 2, 3] 3 (by kernel_rfl) (by kernel_rfl) (fun _ _ _ _ _ h => nomatch h.1) f8 (by kernel_rfl) ?_
      simp only [opsAt, List.filterMap_cons, List.filterMap_nil, List.getElem?_toArray, List.getElem?_cons_succ, List.getElem?_cons_zero]
      change wpQuiet _ _ _ _ (_ :: _ :: _ :: []) _
      (refine BigFrame.wpQuiet_want rfl (fun K hK => ?_); refine quiet_load_arr Try.underlying50 iR _ rfl _ rfl (fun w' hw' => hw') (hK _ ?_); clear hK K; simp only [Act.put, List.setIfInBounds_toArray, List.set_cons_zero, List.set_cons_succ])
      (first | go_big_quiet_skip | (go_big_quiet_want; go_big_quiet_op; first | go_big_quiet_on | (apply Exists.intro; refine ⟨fun _ _ => rfl, ?_⟩; go_big_quiet_on)))
      (first | go_big_quiet_skip | (go_big_quiet_want; go_big_quiet_op; first | go_big_quiet_on | (apply Exists.intro; refine ⟨fun _ _ => rfl, ?_⟩; go_big_quiet_on)))
      refine wpQuiet_nil ?_
      have hB3 := hB3.trans ((abv_drawn ((w2.alloc (.cells (arr .u32 256 (fun _ => 0)) 50)).setRow w2.heap.size (arr .u32 256 (fun _ => 0)))).mono hB3.size)
      obtain ⟨Wd, hWd⟩ : ∃ Wd : World, Wd = { ((w2.alloc (.cells (arr .u32 256 (fun _ => 0)) 50)).setRow w2.heap.size (arr .u32 256 (fun _ => 0)) : World) with drawn := ((w2.alloc (.cells (arr .u32 256 (fun _ => 0)) 50)).setRow w2.heap.size (arr .u32 256 (fun _ => 0)) : World).drawn + 1 } := ⟨_, rfl⟩
      rw [← hWd] at hB3 ⊢
      have f0 : Blk Wd w.heap.size .u32 256 (fun _ => 0) 25 := by rw [hWd]; exact f0
      have f8 : Blk Wd w2.heap.size .u32 256 (fun _ => 0) 50 := by rw [hWd]; exact f8
      clear hWd
      refine wpAnyH_all (rs := [1]) (by kernel_rfl) (by decide) ?_
      intro i hi
      obtain rfl := mem1 hi
      refine wpOp_call _ rfl rfl 24 _ _ rfl (by kernel_rfl) #[.agg (arr .u32 256 (fun _ => 0))] (by simp only [List.map_toArray, List.map_cons, List.map_nil]; rfl) ?_
      refine (implOfRing _ _).mono ?_
      rintro e w3 ⟨rfl, hb3⟩
      have hB4 := belowChain hB3 hb3 hB3.size
      have f0 := f0.below hb3
      have f8 := f8.below hb3
      refine ⟨_, rfl, f8, ?_⟩
      refine wpAnyH_all (rs := [4]) (by kernel_rfl) (by decide) ?_
      intro i hi
      obtain rfl := mem1 hi
      refine wpOp_store_arr _ rfl rfl iU _ _ rfl _ rfl rfl f0 ?_
      refine ⟨f8.rowOther _ _ (Nat.ne_of_gt hs2), ?_⟩
      refine wpAnyH_all (rs := [5]) (by kernel_rfl) (by decide) ?_
      intro i hi
      obtain rfl := mem1 hi
      refine wpOp_assign _ rfl rfl _ rfl ?_
      refine ⟨f8.rowOther _ _ (Nat.ne_of_gt hs2), ?_⟩
      exact wpAnyH_done (by kernel_rfl) ⟨rfl, below_setRow hB4 (Nat.le_refl _) _, f0.row _ _, rfl⟩ _
    rintro a' w3 ⟨hB4, f0, rfl⟩
    simp only [Act.put, List.setIfInBounds_toArray, List.set_cons_zero, List.set_cons_succ]
    go_wp2_with fail
    exact bodyPost_ret (v := .tuple #[.agg (arr .u32 256 (fun _ => 0)), .bool false]) (results_arr_tmp Try.underlying25 iU rfl _ _ _ _ rfl rfl f0) rfl ⟨hB4, _, by rw [HOK.out], fun h => by rw [HOK.out] at h; cases h⟩

theorem belowSet1 (w : World) (cs ds : Array Value) (t : TypeId) : Below w.heap.size w ((w.alloc (.cells cs t)).setRow w.heap.size ds) :=
  below_setRow ((Below.refl _ _).alloc (Nat.le_refl _) _) (Nat.le_refl _) _
set_option maxRecDepth 100000 in
set_option maxHeartbeats 1000000 in
theorem walkFnBitUnpackSlow (ad : Option Addr) (len cap : Nat) (zs : List Int) (a t : Int) (w : World) (h : IsRow .u8 w ad len cap zs) (a0 : 0 ≤ a) (a1 : a < 65536) (t0 : 0 ≤ t) (t1 : t < 65536) :
    Calls Try.prog 7 #[.slice ad len cap, .int .u16 a, .int .u16 t] w fun e w' => e = .returned (.bool true) ∧ Below w.heap.size w w' := by
  have hlm : len ≤ maxLen := by
    rcases h with ⟨_, h, _⟩ | ⟨x, ha, hl, hm, _⟩
    · rw [h]; exact Nat.zero_le _
    · omega
  simp only [maxLen] at hlm
  by_cases hg : 2147483647 < len
  · go_enter Try.func7, Try.ntmps7
    go_wp2_with fail
    go_ret
    exact ⟨rfl, Below.refl _ _⟩
  · obtain ⟨A, hA⟩ : ∃ A, A = a % 8192 := ⟨_, rfl⟩
    obtain ⟨T, hT⟩ : ∃ T, T = 1 + t % 8191 := ⟨_, rfl⟩
    have A0 : 0 ≤ A := by omega
    have A1 : A ≤ 8191 := by omega
    have T0 : 1 ≤ T := by omega
    have T1 : T ≤ 8191 := by omega
    obtain ⟨N, hN⟩ : ∃ N : Nat, A + T = (N : Int) := ⟨(A + T).toNat, by omega⟩
    have hN62 : N < 2 ^ 62 := by omega
    obtain ⟨D, hD⟩ : ∃ D, D = blen 62 (A + T).toNat := ⟨_, rfl⟩
    have hNt : (A + T).toNat = N := by omega
    have hDN : blen 62 N = D := by rw [hD, hNt]
    have hD0 : 1 ≤ D := by rw [← hDN]; exact blen_one 61 N (by omega)
    have hD1 : D ≤ 14 := by rw [← hDN]; exact blen_top 62 N 14 (by omega)
    have HD := Lib.hid hD; have HDN := Lib.hid hDN; have HA := Lib.hid hA; have HT := Lib.hid hT; have HN := Lib.hid hN; have HN62 := Lib.hid hN62; clear hD hDN hNt hA hT hN hN62
    by_cases hl : len = 32 * D
    · subst hl
      obtain ⟨x, rfl, hr, hb⟩ := rd_of_row h (by omega)
      obtain ⟨b, hbv⟩ : ∃ b : Nat → Int, b = fun j => zs.getD j 0 := ⟨_, rfl⟩
      rw [← hbv] at hr
      replace hb : ∀ i, i < 32 * D → 0 ≤ b i ∧ b i < 256 := fun i hi => by rw [hbv]; exact hb i hi
      clear hbv
      have HB := Lib.hid hb; clear hb
      have HR := Lib.hid hr; clear hr h
      go_enter Try.func7, Try.ntmps7
      go_wp2_with fail
      refine (lwEnds a t _ a0 a1 t0 t1).mono ?_
      rintro e w' ⟨rfl, rfl⟩
      rw [← HA.out, ← HT.out]
      clear a0 a1 t0 t1
      have hN2 := HN.out
      go_wp2_with fail
      refine (spBits N _ HN62.out).mono ?_
      rintro e w' ⟨rfl, rfl⟩
      rw [HDN.out]
      clear hN2
      have hne : ((((32 * D : Nat) : Int)) != 32 * (D : Int)) = false := by simp
      go_wp2_with fail
      refine (implUnpackSlow x cap D A T _ _ A0 A1 T0 T1 HD.out hD0 hD1 HR.out HB.out).mono ?_
      rintro e w3 ⟨hb3, F, rfl, hF⟩
      clear hne
      cases hok : okB b D (A + T) with
      | false =>
      go_wp2_with (first | (with_reducible refine at_store 25 _ _ rfl ?_; refine wpList_store_arr iU rfl _ _ rfl _ rfl rfl (Blk.new _ _ _ _ _ rfl) ?_))
      refine (spUnpacked x (32 * D) cap D _ _ (by omega) rfl ((HR.out.below hb3).below (belowSet1 w3 _ _ _)) HB.out).mono ?_
      rintro e w4 ⟨rfl, hb4⟩
      have hB3 := below_setRow (hb3.alloc hb3.size (.cells (arr .u32 256 (fun _ => 0)) 25)) (g := w3.heap.size) hb3.size (arr .u32 256 F)
      have f1 := Blk.below ((Blk.new w3 .u32 256 (fun _ => 0) 25 rfl).row .u32 F) hb4
      have hB4 := belowChain hB3 hb4 hB3.size
      clear hb4
      go_wp2_with fail
      have hd2 : decide ((2147483647 : Int) < 32 * (D : Int)) = false := by rw [decide_eq_false_iff_not]; omega
      try simp only [hd2]
      clear hd2
      go_loop [42] (fun s => ∃ k : Nat, k ≤ 256 ∧ s = .int .i64 (k : Int) ∧ Hid (∀ j, j < k → ubits b (32 * D) D j ≤ A + T)) (fun s => 256 - (intOf s).toNat)
      case atStart => exact ⟨0, by omega, rfl, Lib.hid (fun j hj => by omega)⟩
      case round =>
        obtain ⟨k, hk, rfl, HOK⟩ := hrel
        by_cases hkl : k < 256
        · have hub := ubits_bd b (32 * D) D k
          have hpD : (2 : Int) ^ D ≤ 16384 := by
            have h1 := pow_mono2 D 14 hD1
            have h3 : (2 : Int) ^ 14 = 16384 := by decide
            omega
          obtain ⟨u, hu⟩ : ∃ u, u = ubits b (32 * D) D k := ⟨_, rfl⟩
          have hix : ∀ w', (Instr.index 28 (.agg (arr .i64 256 (ubits b (32 * D) D))) (.int .i64 (k : Int))).run Try.prog w' = .ok (.int .i64 u) w' := fun w' => by rw [ixP _ _ _ hkl, hu]
          rw [← hu] at hub
          have hu0 : 0 ≤ u := hub.1
          have hu1 : u < 16384 := by omega
          have HU := Lib.hid hu; clear hu hub hpD
          by_cases hle : u ≤ A + T
          · go_wp2_with fail
            go_round
            case rel => exact ⟨k + 1, by omega, by go_num, Lib.hid (fun j hj => by
                by_cases e : j = k
                · subst e; rw [← HU.out]; exact hle
                · exact HOK.out j (by omega))⟩
            case measure => simp [intOf]; omega
          · go_wp2_with fail
            go_ret
            exact ⟨rfl, hB4⟩
        · obtain rfl : k = 256 := by omega
          exact absurd ((okB_true HOK.out).symm.trans hok) (by simp)
      | true =>
      have HF := Lib.hid (hF hok); clear hF
      go_wp2_with (first | (with_reducible refine at_store 25 _ _ rfl ?_; refine wpList_store_arr iU rfl _ _ rfl _ rfl rfl (Blk.new _ _ _ _ _ rfl) ?_))
      refine (spUnpacked x (32 * D) cap D _ _ (by omega) rfl ((HR.out.below hb3).below (belowSet1 w3 _ _ _)) HB.out).mono ?_
      rintro e w4 ⟨rfl, hb4⟩
      have hB3 := below_setRow (hb3.alloc hb3.size (.cells (arr .u32 256 (fun _ => 0)) 25)) (g := w3.heap.size) hb3.size (arr .u32 256 F)
      have f1 := Blk.below ((Blk.new w3 .u32 256 (fun _ => 0) 25 rfl).row .u32 F) hb4
      have hB4 := belowChain hB3 hb4 hB3.size
      clear hb4
      go_wp2_with fail
      have hd2 : decide ((2147483647 : Int) < 32 * (D : Int)) = false := by rw [decide_eq_false_iff_not]; omega
      try simp only [hd2]
      clear hd2
      go_loop [42] (fun s => ∃ k : Nat, k ≤ 256 ∧ s = .int .i64 (k : Int) ∧ Hid (∀ j, j < k → ubits b (32 * D) D j ≤ A + T)) (fun s => 256 - (intOf s).toNat)
      case atStart => exact ⟨0, by omega, rfl, Lib.hid (fun j hj => by omega)⟩
      case round =>
        obtain ⟨k, hk, rfl, HOK⟩ := hrel
        by_cases hkl : k < 256
        · have hub := ubits_bd b (32 * D) D k
          have hpD : (2 : Int) ^ D ≤ 16384 := by
            have h1 := pow_mono2 D 14 hD1
            have h3 : (2 : Int) ^ 14 = 16384 := by decide
            omega
          obtain ⟨u, hu⟩ : ∃ u, u = ubits b (32 * D) D k := ⟨_, rfl⟩
          have hix : ∀ w', (Instr.index 28 (.agg (arr .i64 256 (ubits b (32 * D) D))) (.int .i64 (k : Int))).run Try.prog w' = .ok (.int .i64 u) w' := fun w' => by rw [ixP _ _ _ hkl, hu]
          rw [← hu] at hub
          have hu0 : 0 ≤ u := hub.1
          have hu1 : u < 16384 := by omega
          have HU := Lib.hid hu; clear hu hub hpD
          by_cases hle : u ≤ A + T
          · go_wp2_with fail
            go_round
            case rel => exact ⟨k + 1, by omega, by go_num, Lib.hid (fun j hj => by
                by_cases e : j = k
                · subst e; rw [← HU.out]; exact hle
                · exact HOK.out j (by omega))⟩
            case measure => simp [intOf]; omega
          · exact absurd (okB_all hok k hkl) (by rw [← HU.out]; omega)
        · obtain rfl : k = 256 := by omega
          go_wp2_with fail
          refine wp_region_below (by kernel_rfl) (by kernel_rfl) ?_
          (first | go_big_quiet_skip | (go_big_quiet_want; go_big_quiet_op; first | go_big_quiet_on | (apply Exists.intro; refine ⟨fun _ _ => rfl, ?_⟩; go_big_quiet_on)))
          (first | go_big_quiet_skip | (go_big_quiet_want; go_big_quiet_op; first | go_big_quiet_on | (apply Exists.intro; refine ⟨fun _ _ => rfl, ?_⟩; go_big_quiet_on)))
          (refine BigFrame.wpQuiet_want rfl (fun K hK => ?_); refine quiet_load_arr Try.underlying25 iU _ rfl _ rfl (fun w' hw' => Blk.below (f1) hw') (hK _ ?_); clear hK K; simp only [Act.put, List.setIfInBounds_toArray, List.set_cons_zero, List.set_cons_succ])
          (first | go_big_quiet_skip | (go_big_quiet_want; go_big_quiet_op; first | go_big_quiet_on | (apply Exists.intro; refine ⟨fun _ _ => rfl, ?_⟩; go_big_quiet_on)))
          (first | go_big_quiet_skip | (go_big_quiet_want; go_big_quiet_op; first | go_big_quiet_on | (apply Exists.intro; refine ⟨fun _ _ => rfl, ?_⟩; go_big_quiet_on)))
          (first | go_big_quiet_skip | (go_big_quiet_want; go_big_quiet_op; first | go_big_quiet_on | (apply Exists.intro; refine ⟨fun _ _ => rfl, ?_⟩; go_big_quiet_on)))
          go_big_quiet_step ((intro hw'; go_at_call 11; exact Calls.in_below hw' (spUnpackedFrom x (32 * D) cap D N A T _ _ HN.out HN62.out HDN.out A0 (by omega) (by omega) (by omega) (by omega) rfl ((HR.out.below hB4).below hw') HB.out)))
          go_big_quiet_step ((intro hw'; go_at_call 9; exact Calls.in_below hw' (lwIs _ _ _ (fun i hi => by rw [HF.out i hi]; unfold uvS; omega) (fun i hi => ⟨by omega, by rw [HF.out i hi]; unfold uvS; omega⟩))))
          (first | go_big_quiet_skip | (go_big_quiet_want; go_big_quiet_op; first | go_big_quiet_on | (apply Exists.intro; refine ⟨fun _ _ => rfl, ?_⟩; go_big_quiet_on)))
          (first | go_big_quiet_skip | (go_big_quiet_want; go_big_quiet_op; first | go_big_quiet_on | (apply Exists.intro; refine ⟨fun _ _ => rfl, ?_⟩; go_big_quiet_on)))
          refine wpQuiet_nil ?_
          intro w6 hb6
          go_wp2_with fail
          go_ret
          exact ⟨rfl, belowChain hB4 hb6 hB4.size⟩
    · have hne : ((len : Int) != 32 * (D : Int)) = true := by simp; omega
      clear h
      go_enter Try.func7, Try.ntmps7
      go_wp2_with fail
      refine (lwEnds a t _ a0 a1 t0 t1).mono ?_
      rintro e w' ⟨rfl, rfl⟩
      rw [← HA.out, ← HT.out]
      have hN2 := HN.out
      go_wp2_with fail
      refine (spBits N _ HN62.out).mono ?_
      rintro e w' ⟨rfl, rfl⟩
      rw [HDN.out]
      go_wp2_with fail
      go_ret
      exact ⟨rfl, Below.refl _ _⟩

end Go.Proofs.Ytejolgicllogjaa
