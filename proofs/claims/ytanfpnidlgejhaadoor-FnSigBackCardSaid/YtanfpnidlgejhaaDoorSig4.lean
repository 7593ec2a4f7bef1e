/-
  A signature read: the walk.
-/
import Derived.Test.YtanfpnidlgejhaaDoorSig2
import Derived.Test.YtanfpnidlgejhaaDoorHint5
import Derived.Test.YtanfpnidlgejhaaDoorUnpackD
namespace Go.Proofs.YtanfpnidlgejhaaDoor
open Go.RowKit

/-- The bytes of a signature's hints; the numbers of its masks. -/
def hby (s : Nat) (b : Nat → Int) (i : Nat) : Int := b (mm s + i)
def zrow (s : Nat) (b : Nat → Int) (r : Nat) : Nat → Int := uval s (fun j => b (cc s + r * (32 * dd s) + j))
def zval (s : Nat) (b : Nat → Int) (p : Nat) : Int := zrow s b (p / 256) (p % 256)
theorem Rd.shift {k : IntKind} {w : World} {g q n : Nat} {b : Nat → Int} (h : Rd k w ⟨g, q, none⟩ n b) (a m : Nat) (hm : a + m ≤ n) : Rd k w ⟨g, q + a, none⟩ m (fun j => b (a + j)) := fun j hj => by
  rw [Addr.add_at]
  exact h.rowa a j (by omega)
theorem GErr.belowAt {w w' : World} {g B : Nat} (h : GErr w g) (hb : Below B w w') (hl : g < B) : GErr w' g := by
  obtain ⟨u, v, h⟩ := h
  exact ⟨u, v, by rw [hb.cell (p := ⟨g, 0, none⟩) hl, h]⟩
theorem GErr.lt {w : World} {g : Nat} (h : GErr w g) : g < w.heap.size := by
  obtain ⟨u, v, h⟩ := h
  exact block_lt_of_cell h
theorem wpOp_store_at {P : Program} {ops : Array Oper} {Q : Exit → Act → World → Prop} {i : Nat} {a : Act} {w : World} {K : Act → World → Prop} {k : IntKind} {n m : Nat} {z y : Nat → Int} {ty t : TypeId} (o : Oper) (ho : ops[i]? = some o) (hw : Region.wanted o (yielded ops a.tmps) = true) (hi : (P.info? ty).map (·.size) = some n) (x v : Operand) (hop : o.op = .store ty x v)
    (g off : Nat) (hx : a.eval x = .pointer (some ⟨g, off, none⟩)) (hy : a.eval v = .agg (arr k n z)) (hg : Blk w g k m y t) (hm : off + n ≤ m)
    (h : ∀ w', Blk w' g k m (fun p => if off ≤ p ∧ p < off + n then z (p - off) else y p) t → Ex g w w' → K (a.put o.dst undef) w') : wpOp P ops Q i K a w := by
  unfold wpOp
  simp only [ho, hw, if_true]
  exact .inl (wp_store_at hi x v hop g off hx hy hg hm h)
theorem seqH_one {P : Program} {ops : Array Oper} {C : World → Prop} {Q : Exit → Act → World → Prop} {i : Nat} {r : List Nat} {a : Act} {w : World} (o : Oper) (ho : ops[i]? = some o) (h : wpQuiet P ops (fun x => x = w) (fun a' => C w ∧ wpSeqH P ops Q C r a' w) [o] a) : wpSeqH P ops Q C (i :: r) a w := by
  show wpOp P ops Q i _ a w
  have hq : qOp P ops (fun x => x = w) i (wpQuiet P ops (fun x => x = w) (fun a' => C w ∧ wpSeqH P ops Q C r a' w) []) a := by
    unfold qOp
    simp only [ho]
    exact h
  exact wpOp_of_qOp (C := fun x => x = w) rfl (fun a' w' hC' h' => by subst hC'; exact h') hq
/-- What reading a signature leaves behind. -/
def QPost (s g c gz gh B : Nat) (b : Nat → Int) (w : World) (e : Ending) (w' : World) : Prop := Blk w' gz .u32 (ll s * 256) (zval s b) 82 ∧ ((okA (hby s b) (om s) (kk s) ∧ e = .returned (.tuple #[.slice (some ⟨g, 0, none⟩) (cc s) c, .nilIface]) ∧ Blk w' gh .u8 (kk s * 256) (drow (hby s b) (om s) (kk s)) 66) ∨ (¬ okA (hby s b) (om s) (kk s) ∧ ∃ t u, e = .returned (.tuple #[.slice none 0 0, .iface t u]))) ∧ Below B w w'

set_option maxRecDepth 100000 in
set_option maxHeartbeats 1000000 in
theorem sigDecodeNo (s len c lz cz lh ch : Nat) (v az ah : Option Addr) (w : World) (hs : s < 3) (he3 : GErr w 3) (_hl : len ≤ 140737488355328) (hne : len ≠ sgz s) :
    Calls Tryd.prog 40 #[.slice v len c, .slice az lz cz, .slice ah lh ch, .agg (arr .i64 8 (ps s))] w fun e w' => (∃ t u, e = .returned (.tuple #[.slice none 0 0, .iface t u])) ∧ Below w.heap.size w w' := by
  go_enter Tryd.func40, Tryd.ntmps40
  go_wp2_with (first | (with_reducible refine at_load 76 _ rfl ?_; refine wpList_load_s Tryd.underlying76 rfl iPar rfl _ rfl _ rfl (Blk.new w _ _ _ _ rfl) ?_))
  refine (sigSizeW s _ hs).mono ?_
  rintro e w1 ⟨rfl, hb1⟩
  have hB1 := belowChain ((Below.refl w.heap.size w).alloc (Nat.le_refl _) (.cells (arr .i64 8 (ps s)) 76)) hb1 (by first | omega | (simp; done) | (simp; omega))
  obtain ⟨t, u, hc⟩ := he3.below hB1
  have hn : ((len : Int) != ((sgz s : Nat) : Int)) = true := by simp; omega
  go_wp2_with fail
  refine wp_region_quiet_lit (by kernel_rfl) (by kernel_rfl) ?_
  repeat (go_big_quiet_step (fail))
  refine wpQuiet_nil ?_
  intro _ hw'
  obtain ⟨nq, hw''⟩ := hw'
  subst hw''
  go_wp2_with fail
  go_ret2
  exact ⟨⟨_, _, rfl⟩, hB1.trans ⟨rfl, rfl, rfl, Nat.le_refl _, fun _ _ => rfl⟩⟩

set_option maxRecDepth 100000 in
set_option maxHeartbeats 1000000 in
theorem sigDecodeW (s g c gz gh cz ch B : Nat) (b : Nat → Int) (w : World) (hs : s < 3) (he4 : GErr w 4) (he5 : GErr w 5) (he6 : GErr w 6) (hg4 : 4 < B) (hg5 : 5 < B) (hg6 : 6 < B) (hB : B ≤ w.heap.size) (hBz : B ≤ gz) (hBh : B ≤ gh) (hgz : g ≠ gz) (hgh : g ≠ gh) (hzh : gz ≠ gh) (hc : sgz s ≤ c) (hcm : c ≤ maxLen)
    (hr : Rd .u8 w ⟨g, 0, none⟩ (sgz s) b) (hb : ∀ i, i < sgz s → 0 ≤ b i ∧ b i < 256) (hz : Blk w gz .u32 (ll s * 256) (fun _ => 0) 82) (hh : Blk w gh .u8 (kk s * 256) (fun _ => 0) 66) :
    Calls Tryd.prog 40 #[.slice (some ⟨g, 0, none⟩) (sgz s) c, .slice (some ⟨gz, 0, none⟩) (ll s) cz, .slice (some ⟨gh, 0, none⟩) (kk s) ch, .agg (arr .i64 8 (ps s))] w (QPost s g c gz gh B b w) := by
  unfold QPost
  obtain ⟨hc0, hc1⟩ := cc_bd s hs
  obtain ⟨hl0, hl1⟩ := ll_bd s hs
  obtain ⟨hd0, hd1⟩ := dd_bd s hs
  obtain ⟨hk0, hk1⟩ := kk_bd s hs
  obtain ⟨ho0, ho1⟩ := om_bd s hs
  have hsb := sgz_bd s hs
  simp only [maxLen] at hcm
  have hse : sgz s = cc s + ll s * (32 * dd s) + (om s + kk s) := rfl
  have hsa := Nat.le_of_eq hse
  have hsc := Nat.le_of_eq hse.symm
  clear hse
  have hcp := cc_ps s hs
  have hdp := dd_ps s hs
  have hgl := hr.lt (by omega)
  have HR := Lib.hid hr; clear hr
  have HB := Lib.hid hb; clear hb
  have f7 := Blk.new (g := w.heap.size) w .i64 8 (ps s) 76 rfl
  have hzl := hz.lt
  have hhl := hh.lt
  go_enter Tryd.func40, Tryd.ntmps40
  go_wp2_with (first | (with_reducible refine at_load 76 _ rfl ?_; refine wpList_load_s Tryd.underlying76 rfl iPar rfl _ rfl _ rfl (Blk.new w _ _ _ _ rfl) ?_))
  refine (sigSizeW s _ hs).mono ?_
  rintro e w1 ⟨rfl, hb1⟩
  have hB1 := belowChain ((Below.refl w.heap.size w).alloc (Nat.le_refl _) (.cells (arr .i64 8 (ps s)) 76)) hb1 (by first | omega | (simp; done) | (simp; omega))
  have f7 := f7.below hb1
  have hn : (((sgz s : Nat) : Int) != ((sgz s : Nat) : Int)) = false := by simp
  have hc5 := f7.cellv 5 (4 * (cc s : Int)) (by omega) hcp
  go_wp2_with fail
  refine wp_region_quiet_lit (by kernel_rfl) (by kernel_rfl) ?_
  repeat (go_big_quiet_step (fail))
  refine wpQuiet_nil ?_
  intro _ hw'
  obtain ⟨nq, hw''⟩ := hw'
  subst hw''
  have hbe : Below B w (w1.drewN nq) := (hB1.mono hB).trans ⟨rfl, rfl, rfl, Nat.le_refl _, fun _ _ => rfl⟩
  have hbw : Below w.heap.size w (w1.drewN nq) := hB1.trans ⟨rfl, rfl, rfl, Nat.le_refl _, fun _ _ => rfl⟩
  have f7 := f7.drewN nq
  have hz := hz.below hbw
  have hh := hh.below hbw
  have HR := Lib.hid (HR.out.below hbw)
  clear hn hc5 hbw hB1 hb1
  go_wp2_with fail
  go_loopw [0, 31] (fun v t wr => ∃ r : Nat, r ≤ ll s ∧ t = .int .i64 (r : Int) ∧ v = .slice (some ⟨g, cc s + r * (32 * dd s), none⟩) (sgz s - (cc s + r * (32 * dd s))) (c - (cc s + r * (32 * dd s))) ∧ Below B w wr ∧ Blk wr w.heap.size .i64 8 (ps s) 76 ∧ Blk wr gz .u32 (ll s * 256) (fun p => if p < r * 256 then zval s b p else 0) 82 ∧ Blk wr gh .u8 (kk s * 256) (fun _ => 0) 66 ∧ Hid (Rd .u8 wr ⟨g, 0, none⟩ (sgz s) b)) (fun _ t _ => ll s - (intOf t).toNat)
  case atStart => exact ⟨0, by omega, rfl, by rw [Nat.zero_mul, Nat.add_zero], hbe, f7, hz.congr (fun p _ => by rw [if_neg (by omega)]), hh, HR⟩
  case round =>
    clear hbe f7 hz hh HR
    obtain ⟨r, hr, rfl, rfl, hbe, f7, hz, hh, HR⟩ := hrel
    have hsz := f7.lt
    have hc3 := f7.cellv 3 ((dd s : Int) - 1) (by omega) (by omega)
    by_cases hlt : r < ll s
    · have hsuc : (r + 1) * (32 * dd s) = r * (32 * dd s) + (32 * dd s) := Nat.succ_mul _ _
      have hle : (r + 1) * (32 * dd s) ≤ ll s * (32 * dd s) := Nat.mul_le_mul_right _ (by omega)
      rw [hsuc] at hle
      clear hsuc
      go_wp2_with fail
      have hlen : (dd s : Int) * 256 / 8 = ((32 * dd s : Nat) : Int) := by omega
      rw [hlen]
      clear hlen hc3
      have hci : ((32 * dd s : Nat) : Int) ≤ ((c - (cc s + r * (32 * dd s)) : Nat) : Int) := by omega
      have e0 : Blk { wr with drawn := wr.drawn + 1 } w.heap.size .i64 8 (ps s) 76 := f7
      refine wp_region_mids (C := fun w' => Blk w' w.heap.size .i64 8 (ps s) 76) [0, 1, 2, 3, 4, 5] 3 (by kernel_rfl) (by kernel_rfl) (fun _ _ d _ _ h => by cases d <;> exact h) e0 (by kernel_rfl) ?_
      simp only [opsAt, List.filterMap_cons, List.filterMap_nil, List.getElem?_toArray, List.getElem?_cons_succ, List.getElem?_cons_zero]
      change wpQuiet _ _ _ _ (_ :: _ :: _ :: _ :: _ :: _ :: []) _
      (first | go_big_quiet_skip | (go_big_quiet_want; go_big_quiet_op; first | go_big_quiet_on | (apply Exists.intro; refine ⟨fun _ _ => rfl, ?_⟩; go_big_quiet_on)))
      (first | go_big_quiet_skip | (go_big_quiet_want; go_big_quiet_op; first | go_big_quiet_on | (apply Exists.intro; refine ⟨fun _ _ => rfl, ?_⟩; go_big_quiet_on)))
      (first | go_big_quiet_skip | (go_big_quiet_want; go_big_quiet_op; first | go_big_quiet_on | (apply Exists.intro; refine ⟨fun _ _ => rfl, ?_⟩; go_big_quiet_on)))
      (first | go_big_quiet_skip | (go_big_quiet_want; go_big_quiet_op; first | go_big_quiet_on | (apply Exists.intro; refine ⟨fun _ _ => rfl, ?_⟩; go_big_quiet_on)))
      (first | go_big_quiet_skip | (go_big_quiet_want; go_big_quiet_op; first | go_big_quiet_on | (apply Exists.intro; refine ⟨fun _ _ => rfl, ?_⟩; go_big_quiet_on)))
      (refine BigFrame.wpQuiet_want rfl (fun K hK => ?_); refine quiet_load_s Tryd.underlying76 rfl iPar _ rfl _ rfl (fun w' hw' => hw') (hK _ ?_); clear hK K; simp only [Act.put, List.setIfInBounds_toArray, List.set_cons_zero, List.set_cons_succ])
      refine wpQuiet_nil ?_
      have hstep0 : Below wr.heap.size wr { wr with drawn := wr.drawn + 1 } := abv_drawn wr
      obtain ⟨Wd, hWd⟩ : ∃ Wd : World, Wd = { wr with drawn := wr.drawn + 1 } := ⟨_, rfl⟩
      rw [← hWd] at e0 hstep0 ⊢
      clear hWd
      have hbe := hbe.trans (hstep0.mono (Nat.le_trans hB (Nat.le_of_lt hsz)))
      have hz := hz.below hstep0
      have hh := hh.below hstep0
      have HR := Lib.hid (HR.out.below hstep0)
      have hsd := e0.lt
      clear hstep0 f7
      refine anyH_of_seq [6, 7, 8] _ _ _ (by kernel_rfl) ?_
      refine seqH_call _ rfl rfl 47 _ _ rfl (by kernel_rfl) #[.slice (some ⟨g, cc s + r * (32 * dd s), none⟩) (32 * dd s) (c - (cc s + r * (32 * dd s))), .agg (arr .i64 8 (ps s))] (by simp only [List.map_toArray, List.map_cons, List.map_nil]; rfl) ?_
      have hrs : Rd .u8 Wd ⟨g, cc s + r * (32 * dd s), none⟩ (32 * dd s) (fun j => b (cc s + r * (32 * dd s) + j)) := by
        have := HR.out.shift (cc s + r * (32 * dd s)) (32 * dd s) (by omega)
        rwa [Nat.zero_add] at this
      refine (bitUnpackP s g (cc s + r * (32 * dd s)) (c - (cc s + r * (32 * dd s))) (fun j => b (cc s + r * (32 * dd s) + j)) Wd hs (by omega) (by simp only [maxLen]; omega) hrs (fun i hi => HB.out _ (by omega))).mono ?_
      rintro e w3 ⟨rfl, hb3⟩
      clear hrs
      have hbe := hbe.trans (hb3.mono (Nat.le_trans hB (Nat.le_of_lt hsd)))
      have hz := hz.below hb3
      have hh := hh.below hb3
      have HR := Lib.hid (HR.out.below hb3)
      refine ⟨_, rfl, e0.below hb3, ?_⟩
      have e0 := e0.below hb3
      simp only [List.getElem_toArray, List.getElem_cons_succ, List.getElem_cons_zero, Act.put, List.setIfInBounds_toArray, List.set_cons_zero, List.set_cons_succ]
      refine seqH_one _ rfl ?_
      simp only [List.getElem_toArray, List.getElem_cons_succ, List.getElem_cons_zero]
      (first | go_big_quiet_skip | (go_big_quiet_want; go_big_quiet_op; first | go_big_quiet_on | (apply Exists.intro; refine ⟨fun _ _ => rfl, ?_⟩; go_big_quiet_on)))
      refine wpQuiet_nil ⟨e0, ?_⟩
      have hrl : r * 256 + 256 ≤ ll s * 256 := by omega
      refine wpOp_store_at _ rfl rfl iR _ _ rfl gz (r * 256) rfl rfl hz hrl ?_
      intro w4 hz4 he4
      have e0 := he4.blk e0 (by omega)
      refine ⟨e0, ?_⟩
      refine seqH_nil ?_
      have hbe := hbe.trans (he4.below (Nat.le_trans hB (by have := hb3.size; omega)) hBz)
      have hh := he4.blk hh (fun h => hzh h.symm)
      have HR := Lib.hid (he4.rd HR.out hgz)
      have hne : ¬ (c - (cc s + r * (32 * dd s)) = 32 * dd s) := by omega
      have hlc : ((32 * dd s : Nat) : Int) ≤ ((sgz s - (cc s + r * (32 * dd s)) : Nat) : Int) := by omega
      go_wp2_with fail
      go_roundw
      case rel => exact ⟨r + 1, by omega, by go_num, by
        have e1 : cc s + (r + 1) * (32 * dd s) = cc s + r * (32 * dd s) + 32 * dd s := by rw [Nat.succ_mul]; omega
        rw [e1, Nat.sub_sub (sgz s), Nat.sub_sub c], hbe, e0, hz4.congr (fun p hp => by
          by_cases e1 : r * 256 ≤ p ∧ p < r * 256 + 256
          · rw [if_pos e1, if_pos (by omega)]
            unfold zval zrow
            rw [show p / 256 = r from by omega, show p % 256 = p - r * 256 from by omega]
          · rw [if_neg e1]
            by_cases e2 : p < r * 256
            · rw [if_pos e2, if_pos (by omega)]
            · rw [if_neg e2, if_neg (by omega)]), hh, HR⟩
      case measure => simp [intOf]; omega
    · obtain rfl : r = ll s := by omega
      have hz := hz.congr (y := zval s b) (fun p hp => if_pos hp)
      have hmm : cc s + ll s * (32 * dd s) = mm s := rfl
      have hrh : Rd .u8 wr ⟨g, mm s, none⟩ (om s + kk s) (hby s b) := by
        have := HR.out.shift (mm s) (om s + kk s) (by omega)
        rwa [Nat.zero_add] at this
      rw [hmm]
      have hsm : sgz s - mm s = om s + kk s := by omega
      rw [hsm]
      go_wp2_with (first | (with_reducible refine at_load 76 _ rfl ?_; refine wpList_load_s Tryd.underlying76 rfl iPar rfl _ rfl _ rfl (f7) ?_))
      have hBw : B ≤ wr.heap.size := Nat.le_trans hB (Nat.le_of_lt hsz)
      refine (hintDecodeW s gh (c - mm s) ch ⟨g, mm s, none⟩ (hby s b) wr hs (he4.belowAt hbe hg4) (he5.belowAt hbe hg5) (he6.belowAt hbe hg6) hgh hrh (fun i hi => HB.out _ (by omega)) hh).mono ?_
      rintro e w3 ⟨h, hx⟩
      have hbe := hbe.trans (hx.below hBw hBh)
      have hz := hx.blk hz hzh
      rcases h with ⟨hok, rfl, hbt⟩ | ⟨hok, t, u, rfl⟩
      · go_wp2_with fail
        go_ret2
        exact ⟨hz, .inl ⟨hok, rfl, hbt⟩, hbe⟩
      · go_wp2_with fail
        go_ret2
        exact ⟨hz, .inr ⟨hok, _, _, rfl⟩, hbe⟩

end Go.Proofs.YtanfpnidlgejhaaDoor
