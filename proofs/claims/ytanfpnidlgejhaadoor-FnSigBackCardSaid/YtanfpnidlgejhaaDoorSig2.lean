/-
  A signature written: the walk; the doors.
-/
import Derived.Test.YtanfpnidlgejhaaDoorSig1
namespace Go.Proofs.YtanfpnidlgejhaaDoor
open Go.RowKit

set_option maxRecDepth 100000 in
set_option maxHeartbeats 1000000 in
theorem sigEncodeW (s g1 g2 c1 c2 cx : Nat) (x : Addr) (ch : Nat → Int) (Z : Nat → Nat → Int) (H : Nat → Nat → Bool) (w : World) (hs : s < 3) (hr : Rd .u8 w x (cc s) ch) (hz : MatI .u32 w ⟨g1, 0, none⟩ (ll s) Z) (hc2 : kk s ≤ c2) (hm : MatI .u8 w ⟨g2, 0, none⟩ (kk s) (hb H)) (hn : hc H (256 * kk s) ≤ om s)
    (hzb : ∀ r, r < ll s → ∀ i, i < 256 → 0 ≤ Z r i ∧ Z r i < 8380417) (hf : ∀ r, r < ll s → ∀ i, i < 256 → 0 ≤ pval s (Z r) i ∧ pval s (Z r) i < 2 ^ dd s) :
    Calls Tryd.prog 44 #[.slice (some x) (cc s) cx, .slice (some ⟨g1, 0, none⟩) (ll s) c1, .slice (some ⟨g2, 0, none⟩) (kk s) c2, .agg (arr .i64 8 (ps s))] w fun e w' => ∃ g, e = .returned (.slice (some ⟨g, 0, none⟩) (sgz s) (sgz s)) ∧ w.heap.size ≤ g ∧ Blk w' g .u8 (sgz s) (sgb s ch (fun r => pval s (Z r)) (hrow H (om s) (kk s))) 5 ∧ Below w.heap.size w w' := by
  obtain ⟨hc0, hc1'⟩ := cc_bd s hs
  obtain ⟨hl0, hl1⟩ := ll_bd s hs
  obtain ⟨hd0, hd1⟩ := dd_bd s hs
  obtain ⟨hk0, hk1⟩ := kk_bd s hs
  have hsb := sgz_bd s hs
  have hse : sgz s = cc s + ll s * (32 * dd s) + (om s + kk s) := rfl
  have hg1 : g1 < w.heap.size := block_lt_of_cell (hz.at 0 0 (by omega) (by omega))
  have hg2 : g2 < w.heap.size := block_lt_of_cell (hm.at 0 0 (by omega) (by omega))
  have HM := Lib.hid hm; clear hm
  have HN := Lib.hid hn; clear hn
  have HZ := Lib.hid hz; clear hz
  have HB := Lib.hid hzb; clear hzb
  have HF := Lib.hid hf; clear hf
  obtain ⟨SG, hSG⟩ : ∃ SG, SG = sgz s := ⟨_, rfl⟩
  obtain ⟨F, hF⟩ : ∃ F, F = sgm s ch (fun r => pval s (Z r)) := ⟨_, rfl⟩
  have HFe := Lib.hid hF; clear hF
  have f5 := Blk.new (g := w.heap.size) w .i64 8 (ps s) 76 rfl
  go_enter Tryd.func44, Tryd.ntmps44
  go_wp2_with (first | (with_reducible refine at_load 76 _ rfl ?_; refine wpList_load_s Tryd.underlying76 rfl iPar rfl _ rfl _ rfl (f5) ?_))
  refine (sigSizeW s _ hs).mono ?_
  rintro e w1 ⟨rfl, hb1⟩
  rw [← hSG]
  rw [← hSG] at hse hsb
  have hsa := Nat.le_of_eq hse
  have hsc := Nat.le_of_eq hse.symm
  clear hse
  have HSG := Lib.hid hSG; clear hSG
  have f5 := f5.below hb1
  have hB1 := belowChain ((Below.refl w.heap.size w).alloc (Nat.le_refl _) (.cells (arr .i64 8 (ps s)) 76)) hb1 (by first | omega | (simp; done) | (simp; omega))
  have hs1 := f5.lt
  have h0 := Blk.new w1 .u8 SG (fun _ => 0) 5 rfl
  have HR1 := Lib.hid ((hr.below hB1).below (((Below.refl _ _).alloc (Nat.le_refl _) _) : Below w1.heap.size w1 (w1.alloc (.cells (arr .u8 SG fun _ => 0) 5))))
  have f5 := f5.alloc (.cells (arr .u8 SG fun _ => 0) 5)
  have hB2 := hB1.alloc hB1.size (.cells (arr .u8 SG fun _ => 0) 5)
  go_wp2_with (first | (with_reducible refine at_make _ _ _ rfl ?_; refine wpList_make_int Tryd.underlying22 bInfo rfl _ _ rfl _ _ 0 SG _ _ rfl rfl rfl rfl (Nat.zero_le _) (by omega) ?_) | (at_builtin; refine wpList_append_front rfl _ _ 22 rfl Tryd.underlying22 iByte w1.heap.size (cc s) SG cx x rfl rfl h0 HR1.out (by omega) ?_))
  intro w2 h1 he
  have hG0 := hB1.size
  obtain ⟨G, hG⟩ : ∃ G, G = w1.heap.size := ⟨_, rfl⟩
  rw [← hG] at h1 he hG0 hs1 ⊢
  have f5 := he.blk f5 (by omega)
  have hbe := hB2.trans (he.below hB2.size (by omega))
  clear hG
  clear h0 HR1 hB2 he hB1 hb1
  have h1 : Blk w2 G .u8 SG (fun i => if i < cc s + 0 * (32 * dd s) then F i else 0) 5 := h1.congr (fun j hj => by
    rw [Nat.zero_mul, Nat.add_zero]
    by_cases e1 : j < cc s
    · rw [if_pos e1, if_pos e1, HFe.out, sgm_ch _ _ _ _ e1]
    · rw [if_neg e1, if_neg e1])
  clear hr
  go_wp2_with fail
  go_loopw [9, 19] (fun v t wr => ∃ r : Nat, r ≤ ll s ∧ t = .int .i64 (r : Int) ∧ v = .slice (some ⟨G, 0, none⟩) (cc s + r * (32 * dd s)) SG ∧ Blk wr G .u8 SG (fun i => if i < cc s + r * (32 * dd s) then F i else 0) 5 ∧ Below w.heap.size w wr ∧ Blk wr w.heap.size .i64 8 (ps s) 76) (fun _ t _ => ll s - (intOf t).toNat)
  case atStart => exact ⟨0, by omega, rfl, by rw [Nat.zero_mul, Nat.add_zero], h1, hbe, f5⟩
  case round =>
    clear h1 hbe f5
    obtain ⟨r, hr, rfl, rfl, h1, hbe, f5⟩ := hrel
    by_cases hlt : r < ll s
    · have hm1 := (HZ.out.below hbe)
      have HROW := Lib.hid (show ∀ w', Ex G wr w' → ∀ j, j < 256 → w'.cell? ((⟨g1, r * 256, none⟩ : Addr).add j) = some (.int .u32 (Z r j)) from fun w' hw' => (hm1.ex hw' (by omega)).rowAt r hlt)
      have hsuc : (r + 1) * (32 * dd s) = r * (32 * dd s) + (32 * dd s) := Nat.succ_mul _ _
      have hle : (r + 1) * (32 * dd s) ≤ ll s * (32 * dd s) := Nat.mul_le_mul_right _ (by omega)
      have hsz := hbe.size
      go_wp2_with fail
      refine wp_region_mids (C := Ex G wr) [0, 1, 2, 3, 4, 5] 2 (by kernel_rfl) (by kernel_rfl) (fun _ _ d _ _ h => by cases d <;> exact h) (Ex.of_below (abv_drawn wr) G) (by kernel_rfl) ?_
      simp only [opsAt, List.filterMap_cons, List.filterMap_nil, List.getElem?_toArray, List.getElem?_cons_succ, List.getElem?_cons_zero]
      change wpQuiet _ _ _ _ (_ :: _ :: _ :: _ :: _ :: _ :: []) _
      (first | go_big_quiet_skip | (go_big_quiet_want; go_big_quiet_op; first | go_big_quiet_on | (apply Exists.intro; refine ⟨fun _ _ => rfl, ?_⟩; go_big_quiet_on)))
      (first | go_big_quiet_skip | (go_big_quiet_want; go_big_quiet_op; first | go_big_quiet_on | (apply Exists.intro; refine ⟨fun _ _ => rfl, ?_⟩; go_big_quiet_on)))
      (first | go_big_quiet_skip | (go_big_quiet_want; go_big_quiet_op; first | go_big_quiet_on | (apply Exists.intro; refine ⟨fun _ _ => rfl, ?_⟩; go_big_quiet_on)))
      (first | go_big_quiet_skip | (go_big_quiet_want; go_big_quiet_op; first | go_big_quiet_on | (apply Exists.intro; refine ⟨fun _ _ => rfl, ?_⟩; go_big_quiet_on)))
      (refine BigFrame.wpQuiet_want rfl (fun K hK => ?_); refine quiet_load_at Tryd.underlying82 iR _ rfl ⟨g1, r * 256, none⟩ rfl (fun w' hw' => HROW.out w' hw') (hK _ ?_); clear hK K; simp only [Act.put, List.setIfInBounds_toArray, List.set_cons_zero, List.set_cons_succ])
      (refine BigFrame.wpQuiet_want rfl (fun K hK => ?_); refine quiet_load_s Tryd.underlying76 rfl iPar _ rfl _ rfl (fun w' hw' => hw'.blk f5 (by omega)) (hK _ ?_); clear hK K; simp only [Act.put, List.setIfInBounds_toArray, List.set_cons_zero, List.set_cons_succ])
      refine wpQuiet_nil ?_
      obtain ⟨Wd, hWd⟩ : ∃ Wd : World, Wd = { wr with drawn := wr.drawn + 1 } := ⟨_, rfl⟩
      have h1d : Blk Wd G .u8 SG (fun i => if i < cc s + r * (32 * dd s) then F i else 0) 5 := by rw [hWd]; exact h1
      have hwd : Ex G wr Wd := by rw [hWd]; exact Ex.of_below (abv_drawn wr) G
      rw [← hWd]
      clear hWd
      refine anyH_of_seq [6, 7] _ _ _ (by kernel_rfl) ?_
      refine seqH_call _ rfl rfl 49 _ _ rfl (by kernel_rfl) #[.slice (some ⟨G, 0, none⟩) (cc s + r * (32 * dd s)) SG, .agg (arr .u32 256 (Z r)), .agg (arr .i64 8 (ps s))] (by simp only [List.map_toArray, List.map_cons, List.map_nil]; rfl) ?_
      refine (bitPackP s 0 _ (cc s + r * (32 * dd s)) (fun i => if i < cc s + r * (32 * dd s) then F i else 0) (Z r) _ hs (Nat.zero_le _) (by omega) (.inr ⟨G, SG, rfl, Nat.zero_le _, by omega, by omega, h1d⟩) (HB.out r hlt) (HF.out r hlt)).mono ?_
      rintro e w3 ⟨g, c, z, rfl, _, _, _, hb3, hkp, hpk, _, hx⟩
      obtain ⟨hk1, hk2⟩ := hkp
      have hk2 := hk2 (by omega)
      simp only [Value.slice.injEq, Option.some.injEq, Addr.mk.injEq, and_true, true_and] at hk2
      obtain ⟨rfl, rfl⟩ := hk2
      have hx := hwd.trans hx
      refine ⟨_, rfl, hx, ?_⟩
      simp only [List.getElem_toArray, List.getElem_cons_succ, List.getElem_cons_zero, Act.put, List.setIfInBounds_toArray, List.set_cons_zero, List.set_cons_succ]
      refine wpOp_assign _ rfl rfl _ rfl ⟨hx, ?_⟩
      refine seqH_nil ?_
      have hbe := hbe.trans (hx.below hsz (by omega))
      have f5 := hx.blk f5 (by omega)
      go_wp2_with fail
      go_roundw
      case rel => exact ⟨r + 1, by omega, by go_num, by rw [hsuc, ← Nat.add_assoc], hb3.congr (fun i hi => by
          by_cases e1 : i < cc s + r * (32 * dd s)
          · exact (hk1 i (.inl e1)).trans ((if_pos e1).trans (if_pos (by omega)).symm)
          · by_cases e2 : i < cc s + (r + 1) * (32 * dd s)
            · have h := hpk (i - (cc s + r * (32 * dd s))) (by omega)
              rw [show cc s + r * (32 * dd s) + (i - (cc s + r * (32 * dd s))) = i from by omega] at h
              rw [h, if_pos e2, HFe.out, ← sgm_row s hs ch (fun r => pval s (Z r)) r _ (by omega), show cc s + r * (32 * dd s) + (i - (cc s + r * (32 * dd s))) = i from by omega]
            · exact (hk1 i (.inr ⟨by omega, by omega⟩)).trans ((if_neg e1).trans (if_neg e2).symm)), hbe, f5⟩
      case measure => simp [intOf]; omega
    · obtain rfl : r = ll s := by omega
      go_wp2_with (first | (with_reducible refine at_load 76 _ rfl ?_; refine wpList_load_s Tryd.underlying76 rfl iPar rfl _ rfl _ rfl (f5) ?_))
      refine (hintEncodeB s G SG (cc s + ll s * (32 * dd s)) g2 c2 H _ wr hs hc2 (HM.out.below hbe) (by omega) HN.out (by omega) (by omega) h1 (fun j hj _ => if_neg (by omega))).mono ?_
      rintro e w3 ⟨rfl, h3, hx⟩
      go_wp2_with fail
      go_ret
      have hse2 : cc s + ll s * (32 * dd s) + (om s + kk s) = SG := by omega
      rw [hse2, ← HSG.out]
      exact ⟨G, rfl, by omega, h3.congr (fun j hj => by
        unfold sgb put mm
        by_cases e1 : j < cc s + ll s * (32 * dd s)
        · rw [if_pos e1, if_pos e1, HFe.out]
          exact if_pos e1
        · rw [if_neg e1, if_neg e1]), hbe.trans (hx.below hbe.size (by omega))⟩


theorem news_row1 (w : World) (k : IntKind) (z : Nat → Int) (t : TypeId) : ∀ j u, ((List.range 256).map fun i => Value.int k (z i))[j]? = some u → (w.alloc (.cells (arr k 256 z) t)).cell? ((⟨w.heap.size, 0, none⟩ : Addr).add j) = some u := by
  intro j u hj
  have hjl : j < 256 := by
    have := (List.getElem?_eq_some_iff.1 hj).1
    simpa using this
  have e1 : (Addr.add ⟨w.heap.size, 0, none⟩ j) = ⟨w.heap.size, j, none⟩ := by
    unfold Addr.add
    split
    · rename_i e; rw [e]
    · simp
  rw [e1, (Blk.new w k 256 z t rfl).cell hjl]
  simpa [hjl] using hj

theorem mInfoU : ∃ i zz, Tryd.prog.info? 40 = some i ∧ i.zero = some zz ∧ i.size = 256 ∧ i.bytes = 1024 ∧ zz.cells.size = 256 := by
  have h : (Tryd.prog.info? 40).map (fun i => (i.zero.map (·.cells.size), i.size, i.bytes)) = some (some 256, 256, 1024) := by kernel_rfl
  cases hi : Tryd.prog.info? 40 with
  | none => rw [hi] at h; cases h
  | some i =>
    rw [hi] at h
    simp only [Option.map_some, Option.some.injEq, Prod.mk.injEq] at h
    obtain ⟨h1, h2, h3⟩ := h
    cases hz : i.zero with
    | none => rw [hz] at h1; cases h1
    | some z =>
      rw [hz] at h1
      simp only [Option.map_some, Option.some.injEq] at h1
      exact ⟨i, z, rfl, hz, h2, h3, h1⟩

theorem mInfoR : ∃ i zz, Tryd.prog.info? 82 = some i ∧ i.zero = some zz ∧ i.size = 256 ∧ i.bytes = 1024 ∧ zz.cells.size = 256 := by
  have h : (Tryd.prog.info? 82).map (fun i => (i.zero.map (·.cells.size), i.size, i.bytes)) = some (some 256, 256, 1024) := by kernel_rfl
  cases hi : Tryd.prog.info? 82 with
  | none => rw [hi] at h; cases h
  | some i =>
    rw [hi] at h
    simp only [Option.map_some, Option.some.injEq, Prod.mk.injEq] at h
    obtain ⟨h1, h2, h3⟩ := h
    cases hz : i.zero with
    | none => rw [hz] at h1; cases h1
    | some z =>
      rw [hz] at h1
      simp only [Option.map_some, Option.some.injEq] at h1
      exact ⟨i, z, rfl, hz, h2, h3, h1⟩

set_option maxRecDepth 100000 in
set_option maxHeartbeats 1000000 in
theorem implRings (x : Addr) (n c : Nat) (Z : Nat → Nat → Int) (w : World) (hn : n ≤ 65536) (hb : MatI .u32 w x n Z) :
    Calls Tryd.prog 37 #[.slice (some x) n c] w (MatPost .u32 n Z w) := by
  obtain ⟨i, z, hi, hz0, hz1, hz2, hz3⟩ := mInfoR
  have hu1 : ∃ i zz, Tryd.prog.info? 82 = some i ∧ i.zero = some zz ∧ i.size = 256 ∧ zz.cells.size = 256 := ⟨i, z, hi, hz0, hz1, hz3⟩
  go_enter Tryd.func37, Tryd.ntmps37
  go_wp2_with fail
  go_loopw [3, 8] (fun v t wr => ∃ r : Nat, r ≤ n ∧ t = .int .i64 (r : Int) ∧ wr.ownsRow w.heap.size 82 256 v r ((List.range (r * 256)).map fun p => Value.int .u32 (Z (p / 256) (p % 256))) ∧ Below w.heap.size w wr) (fun _ t _ => n - (intOf t).toNat)
  case atStart => exact ⟨0, by omega, rfl, World.ownsRow_nil _ _ _ _, Below.refl _ _⟩
  case round =>
    obtain ⟨r, hr, rfl, hown, hbe⟩ := hrel
    by_cases hlt : r < n
    · have hrow := Lib.hid ((hb.below hbe).row r hlt)
      have hs0 := hbe.size
      go_wp2_with (first | (with_reducible refine at_loadx 40 10 rfl ?_; refine wpList_load_at Tryd.underlying40 iU rfl _ rfl (x.add (r * 256)) rfl hrow.out ?_) | (with_reducible refine at_storex 40 5 _ rfl ?_; refine wpList_store_arr iU rfl _ _ rfl _ rfl rfl (Blk.new wr .u32 256 (fun _ => 0) 40 rfl) ?_) | (with_reducible refine at_loadx 40 5 rfl ?_; refine wpList_load_arr Tryd.underlying40 iU rfl _ rfl _ rfl ((Blk.new wr .u32 256 (fun _ => 0) 40 rfl).row .u32 (Z r)) ?_))
      have hstep := (below_setRow ((Below.refl wr.heap.size wr).alloc (Nat.le_refl _) (.cells (arr .u32 256 (fun _ => 0)) 40)) (g := wr.heap.size) (Nat.le_refl _) (arr .u32 256 (Z r)))
      refine (implRing _ _).mono ?_
      rintro e w3 ⟨rfl, hb3⟩
      have hstep := belowChain hstep hb3 hstep.size
      have hown := ownsRow_below hown hstep
      have hB3 := belowChain hbe hstep hs0
      have hs3 := hB3.size
      clear hb3 hstep
      go_wp2_with (first | (with_reducible refine at_bs _ _ _ rfl ?_; refine wpList_build1 (k := .u32) (n := 256) (z := Z r) Tryd.underlying58 hu1 (by decide) (by decide) rfl _ rfl rfl ?_) | (at_builtin; refine wpList_append_own _ rfl _ _ 58 rfl w.heap.size 82 i z 256 1024 Tryd.underlying58 hi hz0 hz1 hz2 hz3 (by decide) _ _ _ rfl (hown.alloc _) ⟨w3.heap.size, 0, none⟩ 1 1 ((List.range 256).map fun j => Value.int .u32 (Z r j)) rfl ?c1 ?c2 ?c3 ?c4 ?c5 ?c6 ?_))
      case c1 => simp
      case c2 => exact news_row1 w3 .u32 (Z r) _
      case c3 =>
        intro u hu
        obtain ⟨j, _, rfl⟩ := List.mem_map.1 hu
        rfl
      case c4 => simp only [maxLen]; omega
      case c5 => omega
      case c6 => exact Nat.le_trans hs3 (by simp)
      intro v' w4 hown4 hgr4 _
      have hmore : (List.range (r * 256)).map (fun p => Value.int .u32 (Z (p / 256) (p % 256))) ++ (List.range 256).map (fun j => Value.int .u32 (Z r j)) = (List.range ((r + 1) * 256)).map (fun p => Value.int .u32 (Z (p / 256) (p % 256))) := by
        rw [Nat.succ_mul, List.range_add, List.map_append, List.map_map]
        congr 1
        exact List.map_congr_left fun j hj => by
          have := List.mem_range.1 hj
          simp only [Function.comp]
          rw [show (r * 256 + j) / 256 = r from by omega, show (r * 256 + j) % 256 = j from by omega]
      rw [hmore] at hown4
      have hlt4 := (hown.alloc (.cells (arr .u32 256 (Z r)) 82)).lt
      have hB4 := (hB3.alloc hs3 (.cells (arr .u32 256 (Z r)) 82)).grown hgr4 (Nat.le_trans hs3 (by simp)) (fun k hk => (hlt4 k hk).1)
      go_wp2_with fail
      go_roundw
      case rel => exact ⟨r + 1, by omega, by go_num, hown4, hB4⟩
      case measure => simp [intOf]; omega
    · obtain rfl : r = n := by omega
      obtain ⟨a, c2, rfl, hv, _⟩ := matV_of_owns (k := .u32) (Z := Z) hown
      go_wp2_with fail
      go_ret
      exact ⟨⟨a, c2, rfl, hv⟩, hbe⟩

set_option maxRecDepth 100000 in
set_option maxHeartbeats 1000000 in
theorem implOfRings (x : Addr) (n c : Nat) (Z : Nat → Nat → Int) (w : World) (hn : n ≤ 65536) (hb : MatI .u32 w x n Z) :
    Calls Tryd.prog 27 #[.slice (some x) n c] w (MatPost .u32 n Z w) := by
  obtain ⟨i, z, hi, hz0, hz1, hz2, hz3⟩ := mInfoU
  have hu1 : ∃ i zz, Tryd.prog.info? 40 = some i ∧ i.zero = some zz ∧ i.size = 256 ∧ zz.cells.size = 256 := ⟨i, z, hi, hz0, hz1, hz3⟩
  go_enter Tryd.func27, Tryd.ntmps27
  go_wp2_with fail
  go_loopw [3, 8] (fun v t wr => ∃ r : Nat, r ≤ n ∧ t = .int .i64 (r : Int) ∧ wr.ownsRow w.heap.size 40 256 v r ((List.range (r * 256)).map fun p => Value.int .u32 (Z (p / 256) (p % 256))) ∧ Below w.heap.size w wr) (fun _ t _ => n - (intOf t).toNat)
  case atStart => exact ⟨0, by omega, rfl, World.ownsRow_nil _ _ _ _, Below.refl _ _⟩
  case round =>
    obtain ⟨r, hr, rfl, hown, hbe⟩ := hrel
    by_cases hlt : r < n
    · have hrow := Lib.hid ((hb.below hbe).row r hlt)
      have hs0 := hbe.size
      go_wp2_with (first | (with_reducible refine at_loadx 82 10 rfl ?_; refine wpList_load_at Tryd.underlying82 iR rfl _ rfl (x.add (r * 256)) rfl hrow.out ?_) | (with_reducible refine at_storex 82 5 _ rfl ?_; refine wpList_store_arr iR rfl _ _ rfl _ rfl rfl (Blk.new wr .u32 256 (fun _ => 0) 82 rfl) ?_) | (with_reducible refine at_loadx 82 5 rfl ?_; refine wpList_load_arr Tryd.underlying82 iR rfl _ rfl _ rfl ((Blk.new wr .u32 256 (fun _ => 0) 82 rfl).row .u32 (Z r)) ?_))
      have hstep := (below_setRow ((Below.refl wr.heap.size wr).alloc (Nat.le_refl _) (.cells (arr .u32 256 (fun _ => 0)) 82)) (g := wr.heap.size) (Nat.le_refl _) (arr .u32 256 (Z r)))
      refine (implOfRing _ _).mono ?_
      rintro e w3 ⟨rfl, hb3⟩
      have hstep := belowChain hstep hb3 hstep.size
      have hown := ownsRow_below hown hstep
      have hB3 := belowChain hbe hstep hs0
      have hs3 := hB3.size
      clear hb3 hstep
      go_wp2_with (first | (with_reducible refine at_bs _ _ _ rfl ?_; refine wpList_build1 (k := .u32) (n := 256) (z := Z r) Tryd.underlying27 hu1 (by decide) (by decide) rfl _ rfl rfl ?_) | (at_builtin; refine wpList_append_own _ rfl _ _ 27 rfl w.heap.size 40 i z 256 1024 Tryd.underlying27 hi hz0 hz1 hz2 hz3 (by decide) _ _ _ rfl (hown.alloc _) ⟨w3.heap.size, 0, none⟩ 1 1 ((List.range 256).map fun j => Value.int .u32 (Z r j)) rfl ?c1 ?c2 ?c3 ?c4 ?c5 ?c6 ?_))
      case c1 => simp
      case c2 => exact news_row1 w3 .u32 (Z r) _
      case c3 =>
        intro u hu
        obtain ⟨j, _, rfl⟩ := List.mem_map.1 hu
        rfl
      case c4 => simp only [maxLen]; omega
      case c5 => omega
      case c6 => exact Nat.le_trans hs3 (by simp)
      intro v' w4 hown4 hgr4 _
      have hmore : (List.range (r * 256)).map (fun p => Value.int .u32 (Z (p / 256) (p % 256))) ++ (List.range 256).map (fun j => Value.int .u32 (Z r j)) = (List.range ((r + 1) * 256)).map (fun p => Value.int .u32 (Z (p / 256) (p % 256))) := by
        rw [Nat.succ_mul, List.range_add, List.map_append, List.map_map]
        congr 1
        exact List.map_congr_left fun j hj => by
          have := List.mem_range.1 hj
          simp only [Function.comp]
          rw [show (r * 256 + j) / 256 = r from by omega, show (r * 256 + j) % 256 = j from by omega]
      rw [hmore] at hown4
      have hlt4 := (hown.alloc (.cells (arr .u32 256 (Z r)) 40)).lt
      have hB4 := (hB3.alloc hs3 (.cells (arr .u32 256 (Z r)) 40)).grown hgr4 (Nat.le_trans hs3 (by simp)) (fun k hk => (hlt4 k hk).1)
      go_wp2_with fail
      go_roundw
      case rel => exact ⟨r + 1, by omega, by go_num, hown4, hB4⟩
      case measure => simp [intOf]; omega
    · obtain rfl : r = n := by omega
      obtain ⟨a, c2, rfl, hv, _⟩ := matV_of_owns (k := .u32) (Z := Z) hown
      go_wp2_with fail
      go_ret
      exact ⟨⟨a, c2, rfl, hv⟩, hbe⟩

end Go.Proofs.YtanfpnidlgejhaaDoor
