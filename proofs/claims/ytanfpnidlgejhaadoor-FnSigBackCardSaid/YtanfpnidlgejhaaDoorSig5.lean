/-
  A signature read: the doors.
-/
import Derived.Test.YtanfpnidlgejhaaDoorSig4
namespace Go.Proofs.YtanfpnidlgejhaaDoor
open Go.RowKit

theorem wpOp_make_arr {P : Program} {ops : Array Oper} {Q : Exit → Act → World → Prop} {j : Nat} {a : Act} {w : World} {K : Act → World → Prop} {t e : TypeId} {k : IntKind} {m B : Nat} (o : Oper) (hoj : ops[j]? = some o) (hw : Region.wanted o (yielded ops a.tmps) = true) (hu : P.underlying t = some (.slice e)) (hi : ∃ i, P.info? e = some i ∧ i.zero = some (.agg (arr k m fun _ => 0)) ∧ i.size = m ∧ i.bytes ≤ B) (hm : 0 < m) (hBB : B ≤ 4096)
    (l c : Operand) (ho : o.op = .makeSlice t l c) (kl kc : IntKind) (L n : Nat) (VL VC : Int) (hl : a.eval l = .int kl VL) (hc : a.eval c = .int kc VC) (eL : VL = (L : Int)) (eC : VC = (n : Int)) (hLn : L ≤ n) (hn : n ≤ 1048576)
    (h : K (a.put o.dst (.slice (some ⟨w.heap.size, 0, none⟩) L n)) (w.alloc (.cells (arr k (n * m) fun _ => 0) e))) : wpOp P ops Q j K a w := by
  subst eL
  subst eC
  obtain ⟨i, hi, hz, hs, hb⟩ := hi
  have hb' : (i.bytes : Int) * (n : Int) ≤ 281474976710656 := by
    have : i.bytes * n ≤ 4096 * 1048576 := Nat.mul_le_mul (by omega) hn
    have h2 : ((i.bytes * n : Nat) : Int) ≤ 281474976710656 := by omega
    rwa [Int.natCast_mul] at h2
  have hr := run_make (P := P) w t e i _ hu hi hz kl kc L n (by omega) (by omega) hb' (by omega)
  rw [Int.toNat_natCast, Int.toNat_natCast, hs, madeCells_arr _ _ _ hm] at hr
  unfold wpOp
  simp only [hoj, hw, if_true]
  refine .inl ?_
  unfold Oper.wp
  simp [execOp, ho, hl, hc, hr, Result.andThen]
  exact h
theorem results_tmp4 {fn : Func} {t u v x : Tmp} (h : fn.results = #[.tmp t, .tmp u, .tmp v, .tmp x]) (tmps : Array Value) (P : Program) (w : World) :
    (results fn tmps).run P w = .ok (.tuple #[tmps.getD t undef, tmps.getD u undef, tmps.getD v undef, tmps.getD x undef]) w := by
  simp [results, h]
theorem mem_two {i a b : Nat} (h : i ∈ [a, b]) : i = a ∨ i = b := by simpa using h
theorem mem_one {i a : Nat} (h : i ∈ [a]) : i = a := by simpa using h
theorem owns_slice1 {w : World} {base : Nat} {e : TypeId} {n : Nat} {v : Value} {xs : List Value} (h : w.ownsRow base e 1 v n xs) : ∃ a c, v = .slice a n c := by
  obtain ⟨_, ⟨h1, h0⟩ | ⟨g, c, cur, hv, _⟩⟩ := h
  · subst h0; exact ⟨none, 0, h1⟩
  · exact ⟨_, c, hv⟩
/-- What the door of reading a signature leaves behind. -/
def ZSPost (s g c : Nat) (b : Nat → Int) (w : World) (e : Ending) (w' : World) : Prop := (∃ gz gh, w.heap.size ≤ gz ∧ w.heap.size ≤ gh ∧ Blk w' gz .u32 (ll s * 256) (zval s b) 82 ∧ ((okA (hby s b) (om s) (kk s) ∧ e = .returned (.tuple #[.slice (some ⟨g, 0, none⟩) (cc s) c, .slice (some ⟨gz, 0, none⟩) (ll s) (ll s), .slice (some ⟨gh, 0, none⟩) (kk s) (kk s), .nilIface]) ∧ Blk w' gh .u8 (kk s * 256) (drow (hby s b) (om s) (kk s)) 66) ∨ (¬ okA (hby s b) (om s) (kk s) ∧ ∃ t u, e = .returned (.tuple #[.slice none 0 0, .slice (some ⟨gz, 0, none⟩) (ll s) (ll s), .slice (some ⟨gh, 0, none⟩) (kk s) (kk s), .iface t u])))) ∧ Below w.heap.size w w'

theorem mInfoR3 : ∃ i, Tryd.prog.info? 82 = some i ∧ i.zero = some (.agg (arr .u32 256 fun _ => 0)) ∧ i.size = 256 ∧ i.bytes ≤ 1024 := by
  have h : (Tryd.prog.info? 82).map (fun i => (i.zero, i.size, i.bytes)) = some (some (.agg (Array.replicate 256 (.int .u32 0))), 256, 1024) := by kernel_rfl
  rw [arr_rep] at h
  cases hi : Tryd.prog.info? 82 with
  | none => rw [hi] at h; cases h
  | some i =>
    rw [hi] at h
    simp only [Option.map_some, Option.some.injEq, Prod.mk.injEq] at h
    exact ⟨i, rfl, h.1, h.2.1, by omega⟩

theorem mInfoB3 : ∃ i, Tryd.prog.info? 66 = some i ∧ i.zero = some (.agg (arr .u8 256 fun _ => 0)) ∧ i.size = 256 ∧ i.bytes ≤ 256 := by
  have h : (Tryd.prog.info? 66).map (fun i => (i.zero, i.size, i.bytes)) = some (some (.agg (Array.replicate 256 (.int .u8 0))), 256, 256) := by kernel_rfl
  rw [arr_rep] at h
  cases hi : Tryd.prog.info? 66 with
  | none => rw [hi] at h; cases h
  | some i =>
    rw [hi] at h
    simp only [Option.map_some, Option.some.injEq, Prod.mk.injEq] at h
    exact ⟨i, rfl, h.1, h.2.1, by omega⟩

set_option maxRecDepth 100000 in
set_option maxHeartbeats 1000000 in
theorem cloneO1 (x : Addr) (len cap : Nat) (b : Nat → Int) (w : World) (h1 : len ≤ 140737488355328) (hr : Rd .u8 w x len b) :
    Calls Tryd.prog 26 #[.slice (some x) len cap] w fun e w' => (∃ v, e = .returned v ∧ w'.ownsRow w.heap.size 5 1 v len (bl b len)) ∧ Below w.heap.size w w' := by
  obtain ⟨bi, bi1, bi2, bi3, bi4⟩ := byteInfo
  have hnil : (binOp .eql 22 (.slice (some x) len cap) (.slice none 0 0)).run Tryd.prog w = .ok (.bool false) w := run_eql_slice_nil w _ _ _ _ _ Tryd.underlying22
  go_enter Tryd.func26, Tryd.ntmps26
  go_wp2_with (first | (at_builtin; refine wpList_append_own _ rfl _ _ 22 rfl w.heap.size 5 bi (.int .u8 0) 1 1 Tryd.underlying22 bi1 bi2 bi3 bi4 rfl (by decide) _ _ _ rfl (ownsRow_empty w _ _ (Nat.le_refl _)) x len cap ((List.range len).map fun j => Value.int .u8 (b j)) rfl ?c1 ?c2 ?c3 ?c4 ?c5 ?c6 ?_))
  case c1 => simp
  case c2 => exact news_rd (hr.below ((Below.refl _ _).alloc (Nat.le_refl _) _))
  case c3 => exact one_bl b len
  case c4 => simp only [maxLen]; omega
  case c5 => omega
  case c6 => simp
  intro v' w1 hown hgr _
  go_wp2_with fail
  go_ret
  exact ⟨⟨_, rfl, by simpa [bl] using hown⟩, ((Below.refl _ _).alloc (Nat.le_refl _) _).grown hgr (by simp) (fun k hk => by cases hk; exact Nat.le_refl _)⟩
theorem cloneNil1 (w : World) : Calls Tryd.prog 26 #[.slice none 0 0] w fun e w' => e = .returned (.slice none 0 0) ∧ w = w' := by
  have hnil : (binOp .eql 22 (.slice none 0 0) (.slice none 0 0)).run Tryd.prog w = .ok (.bool true) w := run_eql_slice_nil w _ _ _ _ _ Tryd.underlying22
  go_enter Tryd.func26, Tryd.ntmps26
  go_wp2_with fail
  go_ret
  exact ⟨rfl, rfl⟩

set_option maxRecDepth 100000 in
set_option maxHeartbeats 1000000 in
theorem zzSigDecodeNo (s len c : Nat) (v : Option Addr) (w : World) (hs : s < 3) (hp : Par w) (he3 : GErr w 3) (hl : len ≤ 140737488355328) (hne : len ≠ sgz s) :
    Calls Tryd.prog 25 #[.int .i64 (nm s), .slice v len c] w fun e w' => (∃ gz gh t u, w.heap.size ≤ gz ∧ Blk w' gz .u32 (ll s * 256) (fun _ => 0) 82 ∧ e = .returned (.tuple #[.slice none 0 0, .slice (some ⟨gz, 0, none⟩) (ll s) (ll s), .slice (some ⟨gh, 0, none⟩) (kk s) (kk s), .iface t u])) ∧ Below w.heap.size w w' := by
  obtain ⟨hl0, hl1⟩ := ll_bd s hs
  obtain ⟨hk0, hk1⟩ := kk_bd s hs
  obtain ⟨hc0, hc1⟩ := cc_bd s hs
  go_enter Tryd.func25, Tryd.ntmps25
  go_wp2_with fail
  refine (zzSet s _ hs hp).mono ?_
  rintro e w1 ⟨rfl, hb1⟩
  have fp := (Blk.zeros8 w1 76 rfl).row .i64 (ps s)
  have hB2 := below_setRow (hb1.alloc hb1.size (.cells #[.int .i64 0, .int .i64 0, .int .i64 0, .int .i64 0, .int .i64 0, .int .i64 0, .int .i64 0, .int .i64 0] 76)) (g := w1.heap.size) hb1.size (arr .i64 8 (ps s))
  clear hb1
  go_wp2_with (first | (with_reducible refine at_store 76 _ _ rfl ?_; refine wpList_store_arr iPar rfl _ _ rfl _ rfl rfl (Blk.zeros8 _ _ rfl) ?_))
  try simp only [Act.put]
  refine wp_region_viaA (fun A a' w' => ∃ gz gh, w.heap.size ≤ gz ∧ w.heap.size ≤ gh ∧ gz ≠ gh ∧ Below w.heap.size w w' ∧ Blk w' w1.heap.size .i64 8 (ps s) 76 ∧ Blk w' gz .u32 (ll s * 256) (fun _ => 0) 82 ∧ Blk w' gh .u8 (kk s * 256) (fun _ => 0) 66 ∧ a' = (((((((A.put (some 11) (.pointer (some ⟨w1.heap.size, 1, none⟩))).put (some 12) (.int .i64 (ll s : Int))).put (some 14) (.pointer (some ⟨w1.heap.size, 0, none⟩))).put (some 15) (.int .i64 (kk s : Int))).put (some 13) (.slice (some ⟨gz, 0, none⟩) (ll s) (ll s))).put (some 16) (.slice (some ⟨gh, 0, none⟩) (kk s) (kk s))).put (some 5) (.slice (some ⟨gz, 0, none⟩) (ll s) (ll s))).put (some 6) (.slice (some ⟨gh, 0, none⟩) (kk s) (kk s))) ?_ ?_
  · refine wp_region_mids (C := fun w' => Blk w' w1.heap.size .i64 8 (ps s) 76) [0, 1, 3, 4] 4 (by kernel_rfl) (by kernel_rfl) (fun _ _ _ _ _ h => nomatch h.1) fp (by kernel_rfl) ?_
    simp only [opsAt, List.filterMap_cons, List.filterMap_nil, List.getElem?_toArray, List.getElem?_cons_succ, List.getElem?_cons_zero]
    change wpQuiet _ _ _ _ (_ :: _ :: _ :: _ :: []) _
    (first | go_big_quiet_skip | (go_big_quiet_want; go_big_quiet_op; first | go_big_quiet_on | (apply Exists.intro; refine ⟨fun _ _ => rfl, ?_⟩; go_big_quiet_on)))
    (refine BigFrame.wpQuiet_want rfl (fun K hK => ?_); refine quiet_load_int 3 _ rfl _ 1 rfl .i64 ((ll s : Int)) Tryd.isAgg3 (fun w' hw' => hw'.cellv 1 _ (by omega) (ll_ps s hs)) (hK _ ?_); clear hK K; simp only [Act.put, List.setIfInBounds_toArray, List.set_cons_zero, List.set_cons_succ])
    (first | go_big_quiet_skip | (go_big_quiet_want; go_big_quiet_op; first | go_big_quiet_on | (apply Exists.intro; refine ⟨fun _ _ => rfl, ?_⟩; go_big_quiet_on)))
    (refine BigFrame.wpQuiet_want rfl (fun K hK => ?_); refine quiet_load_int 3 _ rfl _ 0 rfl .i64 ((kk s : Int)) Tryd.isAgg3 (fun w' hw' => hw'.cellv 0 _ (by omega) (kk_ps s hs)) (hK _ ?_); clear hK K; simp only [Act.put, List.setIfInBounds_toArray, List.set_cons_zero, List.set_cons_succ])
    refine wpQuiet_nil ?_
    have hB := hB2.trans (abv_drawn _ |>.mono hB2.size)
    obtain ⟨Wd, hWd⟩ : ∃ Wd : World, Wd = { ((w1.alloc (.cells #[.int .i64 0, .int .i64 0, .int .i64 0, .int .i64 0, .int .i64 0, .int .i64 0, .int .i64 0, .int .i64 0] 76)).setRow w1.heap.size (arr .i64 8 (ps s)) : World) with drawn := ((w1.alloc (.cells #[.int .i64 0, .int .i64 0, .int .i64 0, .int .i64 0, .int .i64 0, .int .i64 0, .int .i64 0, .int .i64 0] 76)).setRow w1.heap.size (arr .i64 8 (ps s)) : World).drawn + 1 } := ⟨_, rfl⟩
    rw [← hWd] at hB ⊢
    have fp : Blk Wd w1.heap.size .i64 8 (ps s) 76 := by rw [hWd]; exact fp
    have hBs := hB.size
    clear hWd
    refine wpAnyH_all (rs := [2, 5]) (by kernel_rfl) (by decide) ?_
    intro i hi
    rcases mem_two hi with rfl | rfl
    · refine wpOp_make_arr _ rfl rfl Tryd.underlying58 mInfoR3 (by decide) (by decide) _ _ rfl _ _ (ll s) (ll s) _ _ rfl rfl rfl rfl (Nat.le_refl _) (by omega) ?_
      refine ⟨fp.alloc _, ?_⟩
      refine wpAnyH_all (rs := [5, 6]) (by kernel_rfl) (by decide) ?_
      intro i hi
      rcases mem_two hi with rfl | rfl
      · refine wpOp_make_arr _ rfl rfl Tryd.underlying28 mInfoB3 (by decide) (by decide) _ _ rfl _ _ (kk s) (kk s) _ _ rfl rfl rfl rfl (Nat.le_refl _) (by omega) ?_
        refine ⟨(fp.alloc _).alloc _, ?_⟩
        refine wpAnyH_all (rs := [6]) (by kernel_rfl) (by decide) ?_
        intro i hi
        obtain rfl := mem_one hi
        refine wpOp_assign _ rfl rfl _ rfl ?_
        refine ⟨(fp.alloc _).alloc _, ?_⟩
        refine wpAnyH_all (rs := [7]) (by kernel_rfl) (by decide) ?_
        intro i hi
        obtain rfl := mem_one hi
        refine wpOp_assign _ rfl rfl _ rfl ?_
        refine ⟨(fp.alloc _).alloc _, ?_⟩
        exact wpAnyH_done (by kernel_rfl) ⟨rfl, Wd.heap.size, Wd.heap.size + 1, by omega, by omega, by omega, (hB.alloc hB.size _).alloc (Nat.le_trans hB.size (by simp)) _, (fp.alloc _).alloc _, (Blk.new Wd .u32 (ll s * 256) (fun _ => 0) 82 rfl).alloc _, Blk.new _ _ _ _ _ (by first | omega | (simp; done) | (simp; omega)), by first | rfl | (simp [Act.put, Act.eval, go_sem])⟩ _
      · refine wpOp_assign _ rfl rfl _ rfl ?_
        refine ⟨fp.alloc _, ?_⟩
        refine wpAnyH_all (rs := [5]) (by kernel_rfl) (by decide) ?_
        intro i hi
        obtain rfl := mem_one hi
        refine wpOp_make_arr _ rfl rfl Tryd.underlying28 mInfoB3 (by decide) (by decide) _ _ rfl _ _ (kk s) (kk s) _ _ rfl rfl rfl rfl (Nat.le_refl _) (by omega) ?_
        refine ⟨(fp.alloc _).alloc _, ?_⟩
        refine wpAnyH_all (rs := [7]) (by kernel_rfl) (by decide) ?_
        intro i hi
        obtain rfl := mem_one hi
        refine wpOp_assign _ rfl rfl _ rfl ?_
        refine ⟨(fp.alloc _).alloc _, ?_⟩
        exact wpAnyH_done (by kernel_rfl) ⟨rfl, Wd.heap.size, Wd.heap.size + 1, by omega, by omega, by omega, (hB.alloc hB.size _).alloc (Nat.le_trans hB.size (by simp)) _, (fp.alloc _).alloc _, (Blk.new Wd .u32 (ll s * 256) (fun _ => 0) 82 rfl).alloc _, Blk.new _ _ _ _ _ (by first | omega | (simp; done) | (simp; omega)), by first | rfl | (simp [Act.put, Act.eval, go_sem])⟩ _
    · refine wpOp_make_arr _ rfl rfl Tryd.underlying28 mInfoB3 (by decide) (by decide) _ _ rfl _ _ (kk s) (kk s) _ _ rfl rfl rfl rfl (Nat.le_refl _) (by omega) ?_
      refine ⟨fp.alloc _, ?_⟩
      refine wpAnyH_all (rs := [2]) (by kernel_rfl) (by decide) ?_
      intro i hi
      obtain rfl := mem_one hi
      refine wpOp_make_arr _ rfl rfl Tryd.underlying58 mInfoR3 (by decide) (by decide) _ _ rfl _ _ (ll s) (ll s) _ _ rfl rfl rfl rfl (Nat.le_refl _) (by omega) ?_
      refine ⟨(fp.alloc _).alloc _, ?_⟩
      refine wpAnyH_all (rs := [6]) (by kernel_rfl) (by decide) ?_
      intro i hi
      obtain rfl := mem_one hi
      refine wpOp_assign _ rfl rfl _ rfl ?_
      refine ⟨(fp.alloc _).alloc _, ?_⟩
      refine wpAnyH_all (rs := [7]) (by kernel_rfl) (by decide) ?_
      intro i hi
      obtain rfl := mem_one hi
      refine wpOp_assign _ rfl rfl _ rfl ?_
      refine ⟨(fp.alloc _).alloc _, ?_⟩
      exact wpAnyH_done (by kernel_rfl) ⟨rfl, Wd.heap.size + 1, Wd.heap.size, by omega, by omega, by omega, (hB.alloc hB.size _).alloc (Nat.le_trans hB.size (by simp)) _, (fp.alloc _).alloc _, Blk.new _ _ _ _ _ (by first | omega | (simp; done) | (simp; omega)), (Blk.new Wd .u8 (kk s * 256) (fun _ => 0) 66 rfl).alloc _, by first | rfl | (simp [Act.put, Act.eval, go_sem])⟩ _
  rintro a' w3 ⟨gz, gh, hgz, hgh, hzh, hB3, fp, hz, hh, rfl⟩
  simp only [Act.put, List.setIfInBounds_toArray, List.set_cons_zero, List.set_cons_succ]
  go_wp2_with (first | (with_reducible refine at_load 76 _ rfl ?_; refine wpList_load_s Tryd.underlying76 rfl iPar rfl _ rfl _ rfl (fp) ?_))
  refine (sigDecodeNo s len c _ _ _ _ v _ _ _ hs (he3.below hB3) hl hne).mono ?_
  rintro e w4 ⟨⟨t, u, rfl⟩, hb4⟩
  go_wp2_with fail
  (try simp only [Exit.inBlock, Exit.then]); refine bodyPost_ret (results_tmp4 rfl _ _ _) rfl ?_
  exact ⟨⟨gz, gh, _, _, hgz, hz.below hb4, rfl⟩, belowChain hB3 hb4 hB3.size⟩
set_option maxRecDepth 100000 in
set_option maxHeartbeats 1000000 in
theorem zzSigDecode (s g c : Nat) (b : Nat → Int) (w : World) (hs : s < 3) (hp : Par w) (he4 : GErr w 4) (he5 : GErr w 5) (he6 : GErr w 6) (hc : sgz s ≤ c) (hcm : c ≤ maxLen) (hr : Rd .u8 w ⟨g, 0, none⟩ (sgz s) b) (hb : ∀ i, i < sgz s → 0 ≤ b i ∧ b i < 256) :
    Calls Tryd.prog 25 #[.int .i64 (nm s), .slice (some ⟨g, 0, none⟩) (sgz s) c] w (ZSPost s g c b w) := by
  unfold ZSPost
  obtain ⟨hl0, hl1⟩ := ll_bd s hs
  obtain ⟨hk0, hk1⟩ := kk_bd s hs
  obtain ⟨hc0, hc1⟩ := cc_bd s hs
  have hse : sgz s = cc s + ll s * (32 * dd s) + (om s + kk s) := rfl
  have hgl := hr.lt (by omega)
  clear hse
  have HB := Lib.hid hb; clear hb
  have HR := Lib.hid hr; clear hr
  go_enter Tryd.func25, Tryd.ntmps25
  go_wp2_with fail
  refine (zzSet s _ hs hp).mono ?_
  rintro e w1 ⟨rfl, hb1⟩
  have fp := (Blk.zeros8 w1 76 rfl).row .i64 (ps s)
  have hB2 := below_setRow (hb1.alloc hb1.size (.cells #[.int .i64 0, .int .i64 0, .int .i64 0, .int .i64 0, .int .i64 0, .int .i64 0, .int .i64 0, .int .i64 0] 76)) (g := w1.heap.size) hb1.size (arr .i64 8 (ps s))
  clear hb1
  go_wp2_with (first | (with_reducible refine at_store 76 _ _ rfl ?_; refine wpList_store_arr iPar rfl _ _ rfl _ rfl rfl (Blk.zeros8 _ _ rfl) ?_))
  try simp only [Act.put]
  refine wp_region_viaA (fun A a' w' => ∃ gz gh, w.heap.size ≤ gz ∧ w.heap.size ≤ gh ∧ gz ≠ gh ∧ Below w.heap.size w w' ∧ Blk w' w1.heap.size .i64 8 (ps s) 76 ∧ Blk w' gz .u32 (ll s * 256) (fun _ => 0) 82 ∧ Blk w' gh .u8 (kk s * 256) (fun _ => 0) 66 ∧ a' = (((((((A.put (some 11) (.pointer (some ⟨w1.heap.size, 1, none⟩))).put (some 12) (.int .i64 (ll s : Int))).put (some 14) (.pointer (some ⟨w1.heap.size, 0, none⟩))).put (some 15) (.int .i64 (kk s : Int))).put (some 13) (.slice (some ⟨gz, 0, none⟩) (ll s) (ll s))).put (some 16) (.slice (some ⟨gh, 0, none⟩) (kk s) (kk s))).put (some 5) (.slice (some ⟨gz, 0, none⟩) (ll s) (ll s))).put (some 6) (.slice (some ⟨gh, 0, none⟩) (kk s) (kk s))) ?_ ?_
  · refine wp_region_mids (C := fun w' => Blk w' w1.heap.size .i64 8 (ps s) 76) [0, 1, 3, 4] 4 (by kernel_rfl) (by kernel_rfl) (fun _ _ _ _ _ h => nomatch h.1) fp (by kernel_rfl) ?_
    simp only [opsAt, List.filterMap_cons, List.filterMap_nil, List.getElem?_toArray, List.getElem?_cons_succ, List.getElem?_cons_zero]
    change wpQuiet _ _ _ _ (_ :: _ :: _ :: _ :: []) _
    (first | go_big_quiet_skip | (go_big_quiet_want; go_big_quiet_op; first | go_big_quiet_on | (apply Exists.intro; refine ⟨fun _ _ => rfl, ?_⟩; go_big_quiet_on)))
    (refine BigFrame.wpQuiet_want rfl (fun K hK => ?_); refine quiet_load_int 3 _ rfl _ 1 rfl .i64 ((ll s : Int)) Tryd.isAgg3 (fun w' hw' => hw'.cellv 1 _ (by omega) (ll_ps s hs)) (hK _ ?_); clear hK K; simp only [Act.put, List.setIfInBounds_toArray, List.set_cons_zero, List.set_cons_succ])
    (first | go_big_quiet_skip | (go_big_quiet_want; go_big_quiet_op; first | go_big_quiet_on | (apply Exists.intro; refine ⟨fun _ _ => rfl, ?_⟩; go_big_quiet_on)))
    (refine BigFrame.wpQuiet_want rfl (fun K hK => ?_); refine quiet_load_int 3 _ rfl _ 0 rfl .i64 ((kk s : Int)) Tryd.isAgg3 (fun w' hw' => hw'.cellv 0 _ (by omega) (kk_ps s hs)) (hK _ ?_); clear hK K; simp only [Act.put, List.setIfInBounds_toArray, List.set_cons_zero, List.set_cons_succ])
    refine wpQuiet_nil ?_
    have hB := hB2.trans (abv_drawn _ |>.mono hB2.size)
    obtain ⟨Wd, hWd⟩ : ∃ Wd : World, Wd = { ((w1.alloc (.cells #[.int .i64 0, .int .i64 0, .int .i64 0, .int .i64 0, .int .i64 0, .int .i64 0, .int .i64 0, .int .i64 0] 76)).setRow w1.heap.size (arr .i64 8 (ps s)) : World) with drawn := ((w1.alloc (.cells #[.int .i64 0, .int .i64 0, .int .i64 0, .int .i64 0, .int .i64 0, .int .i64 0, .int .i64 0, .int .i64 0] 76)).setRow w1.heap.size (arr .i64 8 (ps s)) : World).drawn + 1 } := ⟨_, rfl⟩
    rw [← hWd] at hB ⊢
    have fp : Blk Wd w1.heap.size .i64 8 (ps s) 76 := by rw [hWd]; exact fp
    have hBs := hB.size
    clear hWd
    refine wpAnyH_all (rs := [2, 5]) (by kernel_rfl) (by decide) ?_
    intro i hi
    rcases mem_two hi with rfl | rfl
    · refine wpOp_make_arr _ rfl rfl Tryd.underlying58 mInfoR3 (by decide) (by decide) _ _ rfl _ _ (ll s) (ll s) _ _ rfl rfl rfl rfl (Nat.le_refl _) (by omega) ?_
      refine ⟨fp.alloc _, ?_⟩
      refine wpAnyH_all (rs := [5, 6]) (by kernel_rfl) (by decide) ?_
      intro i hi
      rcases mem_two hi with rfl | rfl
      · refine wpOp_make_arr _ rfl rfl Tryd.underlying28 mInfoB3 (by decide) (by decide) _ _ rfl _ _ (kk s) (kk s) _ _ rfl rfl rfl rfl (Nat.le_refl _) (by omega) ?_
        refine ⟨(fp.alloc _).alloc _, ?_⟩
        refine wpAnyH_all (rs := [6]) (by kernel_rfl) (by decide) ?_
        intro i hi
        obtain rfl := mem_one hi
        refine wpOp_assign _ rfl rfl _ rfl ?_
        refine ⟨(fp.alloc _).alloc _, ?_⟩
        refine wpAnyH_all (rs := [7]) (by kernel_rfl) (by decide) ?_
        intro i hi
        obtain rfl := mem_one hi
        refine wpOp_assign _ rfl rfl _ rfl ?_
        refine ⟨(fp.alloc _).alloc _, ?_⟩
        exact wpAnyH_done (by kernel_rfl) ⟨rfl, Wd.heap.size, Wd.heap.size + 1, by omega, by omega, by omega, (hB.alloc hB.size _).alloc (Nat.le_trans hB.size (by simp)) _, (fp.alloc _).alloc _, (Blk.new Wd .u32 (ll s * 256) (fun _ => 0) 82 rfl).alloc _, Blk.new _ _ _ _ _ (by first | omega | (simp; done) | (simp; omega)), by first | rfl | (simp [Act.put, Act.eval, go_sem])⟩ _
      · refine wpOp_assign _ rfl rfl _ rfl ?_
        refine ⟨fp.alloc _, ?_⟩
        refine wpAnyH_all (rs := [5]) (by kernel_rfl) (by decide) ?_
        intro i hi
        obtain rfl := mem_one hi
        refine wpOp_make_arr _ rfl rfl Tryd.underlying28 mInfoB3 (by decide) (by decide) _ _ rfl _ _ (kk s) (kk s) _ _ rfl rfl rfl rfl (Nat.le_refl _) (by omega) ?_
        refine ⟨(fp.alloc _).alloc _, ?_⟩
        refine wpAnyH_all (rs := [7]) (by kernel_rfl) (by decide) ?_
        intro i hi
        obtain rfl := mem_one hi
        refine wpOp_assign _ rfl rfl _ rfl ?_
        refine ⟨(fp.alloc _).alloc _, ?_⟩
        exact wpAnyH_done (by kernel_rfl) ⟨rfl, Wd.heap.size, Wd.heap.size + 1, by omega, by omega, by omega, (hB.alloc hB.size _).alloc (Nat.le_trans hB.size (by simp)) _, (fp.alloc _).alloc _, (Blk.new Wd .u32 (ll s * 256) (fun _ => 0) 82 rfl).alloc _, Blk.new _ _ _ _ _ (by first | omega | (simp; done) | (simp; omega)), by first | rfl | (simp [Act.put, Act.eval, go_sem])⟩ _
    · refine wpOp_make_arr _ rfl rfl Tryd.underlying28 mInfoB3 (by decide) (by decide) _ _ rfl _ _ (kk s) (kk s) _ _ rfl rfl rfl rfl (Nat.le_refl _) (by omega) ?_
      refine ⟨fp.alloc _, ?_⟩
      refine wpAnyH_all (rs := [2]) (by kernel_rfl) (by decide) ?_
      intro i hi
      obtain rfl := mem_one hi
      refine wpOp_make_arr _ rfl rfl Tryd.underlying58 mInfoR3 (by decide) (by decide) _ _ rfl _ _ (ll s) (ll s) _ _ rfl rfl rfl rfl (Nat.le_refl _) (by omega) ?_
      refine ⟨(fp.alloc _).alloc _, ?_⟩
      refine wpAnyH_all (rs := [6]) (by kernel_rfl) (by decide) ?_
      intro i hi
      obtain rfl := mem_one hi
      refine wpOp_assign _ rfl rfl _ rfl ?_
      refine ⟨(fp.alloc _).alloc _, ?_⟩
      refine wpAnyH_all (rs := [7]) (by kernel_rfl) (by decide) ?_
      intro i hi
      obtain rfl := mem_one hi
      refine wpOp_assign _ rfl rfl _ rfl ?_
      refine ⟨(fp.alloc _).alloc _, ?_⟩
      exact wpAnyH_done (by kernel_rfl) ⟨rfl, Wd.heap.size + 1, Wd.heap.size, by omega, by omega, by omega, (hB.alloc hB.size _).alloc (Nat.le_trans hB.size (by simp)) _, (fp.alloc _).alloc _, Blk.new _ _ _ _ _ (by first | omega | (simp; done) | (simp; omega)), (Blk.new Wd .u8 (kk s * 256) (fun _ => 0) 66 rfl).alloc _, by first | rfl | (simp [Act.put, Act.eval, go_sem])⟩ _
  rintro a' w3 ⟨gz, gh, hgz, hgh, hzh, hB3, fp, hz, hh, rfl⟩
  simp only [Act.put, List.setIfInBounds_toArray, List.set_cons_zero, List.set_cons_succ]
  go_wp2_with (first | (with_reducible refine at_load 76 _ rfl ?_; refine wpList_load_s Tryd.underlying76 rfl iPar rfl _ rfl _ rfl (fp) ?_))
  refine (sigDecodeW s g c gz gh (ll s) (kk s) w.heap.size b w3 hs (he4.below hB3) (he5.below hB3) (he6.below hB3) he4.lt he5.lt he6.lt hB3.size hgz hgh (by have h : g < w.heap.size := hgl; omega) (by have h : g < w.heap.size := hgl; omega) hzh hc hcm (HR.out.below hB3) HB.out hz hh).mono ?_
  rintro e w4 ⟨hz4, h, hb4⟩
  rcases h with ⟨hok, rfl, hbt⟩ | ⟨hok, t, u, rfl⟩
  · go_wp2_with fail
    (try simp only [Exit.inBlock, Exit.then]); refine bodyPost_ret (results_tmp4 rfl _ _ _) rfl ?_
    exact ⟨⟨gz, gh, hgz, hgh, hz4, .inl ⟨hok, rfl, hbt⟩⟩, hB3.trans hb4⟩
  · go_wp2_with fail
    (try simp only [Exit.inBlock, Exit.then]); refine bodyPost_ret (results_tmp4 rfl _ _ _) rfl ?_
    exact ⟨⟨gz, gh, hgz, hgh, hz4, .inr ⟨hok, _, _, rfl⟩⟩, hB3.trans hb4⟩

end Go.Proofs.YtanfpnidlgejhaaDoor
