/-
  A public key written: the law.
-/
import Derived.Test.YteigpbeamdhjpaaDoorPk1
import Derived.Test.YteigpbeamdhjpaaDoorPack2
namespace Go.Proofs.YteigpbeamdhjpaaDoor
open Go.RowKit

set_option maxRecDepth 100000 in
set_option maxHeartbeats 1000000 in
theorem lwWide (z : Nat → Int) (w : World) (hz : ∀ i, i < 256 → 0 ≤ z i ∧ z i < 65536) :
    Calls Tryd.prog 13 #[.agg (arr .u16 256 z)] w fun e w' => e = .returned (.agg (arr .i64 256 z)) ∧ Below w.heap.size w w' := by
  have HZ := Lib.hid hz; clear hz
  go_enter Tryd.func13, Tryd.ntmps13
  go_wp2_with (first | (with_reducible refine at_store 35 _ _ rfl ?_; refine wpList_store_arr iP rfl _ _ rfl _ rfl rfl (Blk.new _ _ _ _ _ (by first | omega | (simp; done) | (simp; omega))) ?_) | (with_reducible refine at_load 32 _ rfl ?_; refine wpList_load_arr Tryd.underlying32 iW rfl _ rfl _ rfl ((((Blk.new w _ _ _ _ rfl).alloc _).alloc _).rowOther _ _ (by first | omega | (simp; done) | (simp; omega))) ?_))
  go_loopw [8] (fun t wr => ∃ k : Nat, k ≤ 256 ∧ t = .int .i64 (k : Int) ∧ Below w.heap.size w wr ∧ Blk wr (w.heap.size + 1 + 1) .i64 256 (fun j => if j < k then z j else 0) 35 ∧ Blk wr (w.heap.size + 1) .i64 256 (fun _ => 0) 35 ∧ Blk wr w.heap.size .u16 256 z 32) (fun t _ => 256 - (intOf t).toNat)
  case atStart => exact ⟨0, by omega, rfl, below_setRow ((((Below.refl _ _).alloc (Nat.le_refl _) _).alloc (by first | omega | (simp; done) | (simp; omega)) _).alloc (by first | omega | (simp; done) | (simp; omega)) _) (by first | omega | (simp; done) | (simp; omega)) _, ((Blk.new _ _ _ _ _ (by first | omega | (simp; done) | (simp; omega))).row _ _).congr (fun j _ => by rw [if_neg (by omega)]), ((Blk.new _ _ _ _ _ (by first | omega | (simp; done) | (simp; omega))).alloc _).rowOther _ _ (by first | omega | (simp; done) | (simp; omega)), (((Blk.new _ _ _ _ _ rfl).alloc _).alloc _).rowOther _ _ (by first | omega | (simp; done) | (simp; omega))⟩
  case round =>
    obtain ⟨k, hk, rfl, hbe, h3, h2, h1⟩ := hrel
    have hsz := hbe.size
    by_cases hlt : k < 256
    · obtain ⟨hz0, hz1⟩ := HZ.out k hlt
      obtain ⟨u, hu⟩ : ∃ u, u = z k := ⟨_, rfl⟩
      have hix : ∀ w', (Instr.index 32 (.agg (arr .u16 256 z)) (.int .i64 (k : Int))).run Tryd.prog w' = .ok (.int .u16 u) w' := fun w' => by rw [ixW _ _ _ hlt, hu]
      rw [← hu] at hz0 hz1
      have HU := Lib.hid hu; clear hu
      go_wp2_with (first | (with_reducible refine at_store 3 _ _ rfl ?_; refine wpList_store_int Tryd.sizeOf3 rfl _ _ rfl _ _ rfl _ rfl h3 (by omega) ?_; intro wn hn he; replace hbe := hbe.trans (he.below hsz (by omega)); replace h2 := he.blk h2 (by omega); replace h1 := he.blk h1 (by omega); clear h3; have h3 := hn; clear hn he))
      go_roundw
      case rel => exact ⟨k + 1, by omega, by go_num, hbe, h3.congr (fun p _ => by
          by_cases e : p = k
          · subst e; rw [if_pos rfl, if_pos (by omega), HU.out]
          · rw [if_neg e]; by_cases e2 : p < k
            · rw [if_pos e2, if_pos (by omega)]
            · rw [if_neg e2, if_neg (by omega)]), h2, h1⟩
      case measure => simp [intOf]; omega
    · obtain rfl : k = 256 := by omega
      have h3 : Blk wr (w.heap.size + 1 + 1) .i64 256 z 35 := h3.congr fun j hj => if_pos hj
      go_wp2_with (first | (with_reducible refine at_load 35 _ rfl ?_; refine wpList_load_arr Tryd.underlying35 iP rfl _ rfl _ rfl (h3) ?_) | (with_reducible refine at_store 35 _ _ rfl ?_; refine wpList_store_arr iP rfl _ _ rfl _ rfl rfl (h2) ?_))
      exact bodyPost_ret (v := .agg (arr .i64 256 z)) (results_arr Tryd.underlying35 iP rfl _ _ _ rfl (h2.row _ _)) rfl ⟨rfl, below_setRow hbe (by first | omega | (simp; done) | (simp; omega)) _⟩

set_option maxRecDepth 100000 in
set_option maxHeartbeats 1000000 in
theorem spJoined1 (g : Nat) (x : Addr) (l c : Nat) (f : Nat → Int) (w : World) (h0 : 0 < l) (hl : l ≤ 1073741824) (hc : w.cell? ⟨g, 0, none⟩ = some (.slice (some x) l c)) (hr : Rd .u8 w x l f) :
    Calls Tryd.prog 11 #[.slice (some ⟨g, 0, none⟩) 1 1] w fun e w' => (∃ v, e = .returned v ∧ w'.ownsRow w.heap.size 5 1 v l (bl f l)) ∧ Below w.heap.size w w' := by
  obtain ⟨bi, bi1, bi2, bi3, bi4⟩ := byteInfo
  go_enter Tryd.func11, Tryd.ntmps11
  go_wp2_with fail
  go_loopw [3, 9] (fun v t wr => ∃ i : Nat, i ≤ 1 ∧ t = .int .i64 (i : Int) ∧ wr.ownsRow w.heap.size 5 1 v (if i = 0 then 0 else l) (bl f (if i = 0 then 0 else l)) ∧ Below w.heap.size w wr) (fun _ t _ => 1 - (intOf t).toNat)
  case atStart => exact ⟨0, by omega, rfl, ownsRow_empty w _ _ (Nat.le_refl _), (Below.refl _ _).alloc (Nat.le_refl _) _⟩
  case round =>
    obtain ⟨i, hi, rfl, hown, hbe⟩ := hrel
    by_cases hlt : i < 1
    · obtain rfl : i = 0 := by omega
      have hcell : wr.cell? ⟨g, 0, none⟩ = some (.slice (some x) l c) := by
        rw [hbe.cell (p := ⟨g, 0, none⟩) (block_lt_of_cell hc), hc]
      have hr1 := Lib.hid (hr.below hbe)
      have hs0 := hbe.size
      rw [if_pos rfl] at hown
      go_wp2_with (first | (at_builtin; refine wpList_append_own _ rfl _ _ 30 rfl w.heap.size 5 bi (.int .u8 0) 1 1 Tryd.underlying30 bi1 bi2 bi3 bi4 rfl (by decide) _ _ _ rfl (hown) x l c ((List.range l).map fun i => Value.int .u8 (f i)) rfl ?c1 ?c2 ?c3 ?c4 ?c5 ?c6 ?_))
      case c1 => simp
      case c2 => exact news_rd hr1.out
      case c3 => exact one_bl f l
      case c4 => simp only [maxLen]; omega
      case c5 => omega
      case c6 => exact hs0
      intro v1 w1 hown1 hgr1 _
      have hlt1 := hown.lt
      have hB1 := hbe.grown hgr1 hs0 (fun k hk => (hlt1 k hk).1)
      go_wp2_with fail
      go_roundw
      case rel => exact ⟨1, by omega, by go_num, by rw [if_neg (by omega)]; simpa [bl] using hown1, hB1⟩
      case measure => simp [intOf]
    · obtain rfl : i = 1 := by omega
      rw [if_neg (by omega)] at hown
      go_wp2_with fail
      go_ret
      exact ⟨⟨_, rfl, hown⟩, hbe⟩

/-- Bytes are told, in new memory. -/
def BPost (n : Nat) (f : Nat → Int) (w : World) (e : Ending) (w' : World) : Prop := ∃ g c, e = .returned (.slice (some ⟨g, 0, none⟩) n c) ∧ w.heap.size ≤ g ∧ Rd .u8 w' ⟨g, 0, none⟩ n f ∧ Below w.heap.size w w'
theorem bpost_of {n : Nat} {f : Nat → Int} {w w' : World} {t : TypeId} {v : Value} (hn : 0 < n) (h : w'.ownsRow w.heap.size t 1 v n (bl f n)) (hb : Below w.heap.size w w') : BPost n f w (.returned v) w' := by
  obtain ⟨g, c, rfl, hg, _, _, hr⟩ := rd_of_owns hn h
  exact ⟨g, c, rfl, hg, hr, hb⟩
set_option maxRecDepth 100000 in
set_option maxHeartbeats 1000000 in
theorem zzPkEncode (s g1 g2 c1 c2 : Nat) (rho : Nat → Int) (Z : Nat → Nat → Int) (w : World) (hs : s < 3) (hp : Par w) (hr : Rd .u8 w ⟨g1, 0, none⟩ 32 rho) (hc2 : kk s ≤ c2) (hm : MatI .u16 w ⟨g2, 0, none⟩ (kk s) Z) (hz : ∀ r, r < kk s → ∀ j, j < 256 → 0 ≤ Z r j ∧ Z r j < 1024) :
    Calls Tryd.prog 28 #[.int .i64 (nm s), .slice (some ⟨g1, 0, none⟩) 32 c1, .slice (some ⟨g2, 0, none⟩) (kk s) c2] w (BPost (32 + 320 * kk s) (pkb rho Z) w) := by
  obtain ⟨hk0, hk1⟩ := kk_bd s hs
  go_enter Tryd.func28, Tryd.ntmps28
  go_wp2_with fail
  refine (zzSet s _ hs hp).mono ?_
  rintro e w1 ⟨rfl, hb1⟩
  go_wp2_with fail
  refine (pkEncodeW s g1 g2 c1 c2 rho Z _ hs (hr.below hb1) hc2 (hm.below hb1) hz).mono ?_
  rintro e w2 ⟨⟨v, rfl, hown⟩, hb2⟩
  obtain ⟨g, c, rfl, hg, _, _, hrd⟩ := rd_of_owns (by omega) hown
  go_wp2_with fail
  go_ret
  exact ⟨g, c, rfl, Nat.le_trans hb1.size hg, hrd, belowChain hb1 hb2 hb1.size⟩
set_option maxRecDepth 100000 in
set_option maxHeartbeats 1000000 in
theorem implPkEncode (s c : Nat) (x : Addr) (a : Option Addr) (cap : Nat) (rho : Nat → Int) (Z : Nat → Nat → Int) (w : World) (hs : s < 3) (hp : Par w) (hr : Rd .u8 w x 32 rho) (hm : IsMat .u16 w a (kk s) cap Z) (hz : ∀ r, r < kk s → ∀ j, j < 256 → 0 ≤ Z r j ∧ Z r j < 1024) :
    Calls Tryd.prog 15 #[.int .i64 (nm s), .slice (some x) 32 c, .slice a (kk s) cap] w (BPost (32 + 320 * kk s) (pkb rho Z) w) := by
  obtain ⟨hk0, hk1⟩ := kk_bd s hs
  have HM := Lib.hid hm; clear hm
  go_enter Tryd.func15, Tryd.ntmps15
  go_wp2_with fail
  refine (cloneB x 32 c rho _ (by omega) (by omega) hr).mono ?_
  rintro e w1 ⟨⟨g1, c1, rfl, hg1, hc1, hcm1, hrd1⟩, hb1⟩
  have HM1 := Lib.hid (isMat_le HM.out hb1)
  go_wp2_with fail
  refine (cloneW a (kk s) cap Z _ (by omega) HM1.out).mono ?_
  rintro e w2 ⟨⟨a', c2, rfl, hv, hc2⟩, hb2⟩
  obtain ⟨g2, rfl, hg2, hmi⟩ : ∃ g, a' = some ⟨g, 0, none⟩ ∧ w1.heap.size ≤ g ∧ MatI .u16 w2 ⟨g, 0, none⟩ (kk s) Z := by
    rcases hv with h0 | h
    · omega
    · exact h
  have hB2 := belowChain hb1 hb2 hb1.size
  go_wp2_with fail
  refine (zzPkEncode s g1 g2 c1 c2 rho Z _ hs (hp.below hB2) (hrd1.below hb2) hc2 hmi hz).mono ?_
  rintro e w3 ⟨g, c, rfl, hg, hrd, hb3⟩
  go_wp2_with fail
  go_ret
  exact ⟨g, c, rfl, Nat.le_trans hB2.size hg, hrd, belowChain hB2 hb3 hB2.size⟩

set_option maxRecDepth 100000 in
set_option maxHeartbeats 1000000 in
theorem walkFnPkEncode (n : Int) (rho : Nat → Int) (ad : Option Addr) (len cap : Nat) (Z : Nat → Nat → Int) (w : World) (hp : Par w) (n0 : 0 ≤ n) (n1 : n < 256) (_hrho : ∀ i, i < 32 → 0 ≤ rho i ∧ rho i < 256) (h : IsMat .u16 w ad len cap Z) :
    Calls Tryd.prog 3 #[.int .u8 n, .agg (arr .u8 32 rho), .slice ad len cap] w fun e w' => e = .returned (.bool true) ∧ Below w.heap.size w w' := by
  obtain ⟨bi, bi1, bi2, bi3, bi4⟩ := byteInfo
  have hlm : len ≤ maxLen := by
    rcases h with ⟨_, h, _⟩ | ⟨x, ha, hl, hm, _⟩
    · rw [h]; exact Nat.zero_le _
    · omega
  simp only [maxLen] at hlm
  obtain ⟨s, hs⟩ : ∃ s : Nat, (s : Int) = n % 3 := ⟨(n % 3).toNat, by omega⟩
  have hs3 : s < 3 := by omega
  obtain ⟨hk0, hk1⟩ := kk_bd s hs3
  have hks := kk_ss s hs3
  have H := Lib.hid h; clear h
  have f4 := Blk.new w .u8 32 rho 22 rfl
  have hB0 := (Below.refl w.heap.size w).alloc (Nat.le_refl _) (.cells (arr .u8 32 rho) 22)
  by_cases hg1 : 2147483647 < len
  · go_enter Tryd.func3, Tryd.ntmps3
    go_wp2_with fail
    go_ret
    exact ⟨rfl, hB0⟩
  · go_enter Tryd.func3, Tryd.ntmps3
    go_wp2_with fail
    refine (lwSet _ s _ n0 n1 hs).mono ?_
    rintro e w1 ⟨rfl, hb1⟩
    clear hs
    have f4 := f4.below hb1
    have hB1 := belowChain hB0 hb1 hB0.size
    have fs := (Blk.zeros8 w1 25 rfl).row .i64 (ss s)
    have hB2 := below_setRow (hB1.alloc hB1.size (.cells #[.int .i64 0, .int .i64 0, .int .i64 0, .int .i64 0, .int .i64 0, .int .i64 0, .int .i64 0, .int .i64 0] 25)) (g := w1.heap.size) hB1.size (arr .i64 8 (ss s))
    have f4 := (f4.alloc (.cells #[.int .i64 0, .int .i64 0, .int .i64 0, .int .i64 0, .int .i64 0, .int .i64 0, .int .i64 0, .int .i64 0] 25)).rowOther w1.heap.size (arr .i64 8 (ss s)) (by have := f4.lt; omega)
    have hc0 := fs.cellv 0 (kk s : Int) (by omega) hks
    by_cases hl : len = kk s
    · subst hl
      have hne : ((((kk s : Nat) : Int)) != ((kk s : Nat) : Int)) = false := by simp
      go_wp2_with (first | (with_reducible refine at_store 25 _ _ rfl ?_; refine wpList_store_arr iSet rfl _ _ rfl _ rfl rfl (Blk.zeros8 _ _ rfl) ?_))
      refine (lwBelow16 ad (kk s) cap Z 1024 _ (by omega) (by omega) (by omega) (isMat_le H.out hB2)).mono ?_
      rintro e w3 ⟨rfl, hb3⟩
      have f4 := f4.below hb3
      have hB3 := belowChain hB2 hb3 hB2.size
      clear hc0 hne
      cases hmb : matB Z (kk s) 1024 with
      | false =>
        go_wp2_with fail
        go_ret
        exact ⟨rfl, hB3⟩
      | true =>
        have hz : ∀ r, r < kk s → ∀ j, j < 256 → 0 ≤ Z r j ∧ Z r j < 1024 := by
          intro r hr j hj
          refine ⟨?_, matB_all hmb r hr j hj⟩
          rcases H.out with ⟨_, h0, _⟩ | ⟨x, _, hl, _, _, hw⟩
          · omega
          · have := bounds_u16 (hw r (by omega) j hj); omega
        have HZ := Lib.hid hz; clear hmb hz
        obtain ⟨x, rfl, hlc, hcm, hm, _⟩ : ∃ x, ad = some x ∧ kk s ≤ cap ∧ cap ≤ maxLen ∧ MatI .u16 w x cap Z ∧ ∀ r, r < cap → ∀ j, j < 256 → (Lit.int .u16 (Z r j)).wf = true := by
          rcases H.out with ⟨_, h0, _⟩ | h
          · omega
          · exact h
        have HM := Lib.hid hm; clear hm
        have hs4 := f4.lt
        go_wp2_with fail
        have hcl : (w3.alloc (.cells #[.slice (some ⟨w.heap.size, 0, none⟩) 32 32] 30)).cell? ⟨w3.heap.size, 0, none⟩ = some (.slice (some ⟨w.heap.size, 0, none⟩) 32 32) := by
          rw [cell_of_row _ _ _ _ _ _ (heap_alloc_last w3 _)]
          rfl
        refine (spJoined1 w3.heap.size ⟨w.heap.size, 0, none⟩ 32 32 rho _ (by omega) (by omega) hcl (Blk.rd (L := 0) (f4.alloc _) (Nat.le_refl _) (fun j _ => by rw [Nat.zero_add]))).mono ?_
        rintro e w4 ⟨⟨v4, rfl, hown4⟩, hb4⟩
        have hown4 := owns_mono hown4 (Nat.le_trans hB3.size (by simp) : w.heap.size ≤ _)
        have hB4 := belowChain (hB3.alloc hB3.size (.cells #[.slice (some ⟨w.heap.size, 0, none⟩) 32 32] 30)) hb4 (Nat.le_trans hB3.size (by simp))
        have f4 := (f4.alloc (.cells #[.slice (some ⟨w.heap.size, 0, none⟩) 32 32] 30)).below hb4
        have HP := Lib.hid (hp.below hB4)
        have hown4 : w4.ownsRow w.heap.size 5 1 v4 32 (bl (pkb rho Z) 32) := by
          have e : bl rho 32 = bl (pkb rho Z) 32 := bl_congr _ _ _ fun i hi => by unfold pkb; rw [if_pos hi]
          rw [← e]
          exact hown4
        clear hcl hb3 hb4
        go_wp2_with fail
        have hd2 : decide ((2147483647 : Int) < ((kk s : Nat) : Int)) = false := by rw [decide_eq_false_iff_not]; omega
        try simp only [hd2]
        clear hd2
        go_loopw [9, 35] (fun v t wr => ∃ r : Nat, r ≤ kk s ∧ t = .int .i64 (r : Int) ∧ wr.ownsRow w.heap.size 5 1 v (32 + 320 * r) (bl (pkb rho Z) (32 + 320 * r)) ∧ Below w.heap.size w wr ∧ Blk wr w.heap.size .u8 32 rho 22) (fun _ t _ => kk s - (intOf t).toNat)
        case atStart => exact ⟨0, by omega, rfl, hown4, hB4, f4⟩
        case round =>
          clear hown4 f4 hB4
          obtain ⟨r, hr, rfl, hown, hbe, f4⟩ := hrel
          by_cases hlt : r < kk s
          · have hrow := Lib.hid ((HM.out.below hbe).row r (by omega))
            have hs0 := hbe.size
            go_wp2_with (first | (with_reducible refine at_loadx 32 37 rfl ?_; refine wpList_load_at Tryd.underlying32 iW rfl _ rfl (x.add (r * 256)) rfl hrow.out ?_) | (with_reducible refine at_storex 32 11 _ rfl ?_; refine wpList_store_arr iW rfl _ _ rfl _ rfl rfl (Blk.new wr .u16 256 (fun _ => 0) 32 rfl) ?_) | (with_reducible refine at_loadx 32 11 rfl ?_; refine wpList_load_arr Tryd.underlying32 iW rfl _ rfl _ rfl ((Blk.new wr .u16 256 (fun _ => 0) 32 rfl).row .u16 (Z r)) ?_))
            have hstep := below_setRow ((Below.refl wr.heap.size wr).alloc (Nat.le_refl _) (.cells (arr .u16 256 (fun _ => 0)) 32)) (g := wr.heap.size) (Nat.le_refl _) (arr .u16 256 (Z r))
            refine (lwWide (Z r) _ (fun i hi => by have := HZ.out r hlt i hi; omega)).mono ?_
            rintro e w5 ⟨rfl, hb5⟩
            have hstep := belowChain hstep hb5 hstep.size
            go_wp2_with fail
            refine (spPacked (Z r) 10 _ (by decide) (by decide) (fun i hi => HZ.out r hlt i hi)).mono ?_
            rintro e w6 ⟨gp, rfl, hgp, hbp, hb6⟩
            have hstep := belowChain hstep hb6 hstep.size
            have hown := ownsRow_below hown hstep
            have hbe := belowChain hbe hstep hs0
            have f4 := f4.below hstep
            have hne := owns_ne hown f4 (by decide)
            have hs1 := hbe.size
            clear hb5 hb6 hstep hrow
            go_wp2_with (first | (at_builtin; refine wpList_append_own _ rfl _ _ 30 rfl w.heap.size 5 bi (.int .u8 0) 1 1 Tryd.underlying30 bi1 bi2 bi3 bi4 rfl (by decide) _ _ _ rfl (hown) ⟨gp, 0, none⟩ 320 320 ((List.range 320).map fun j => Value.int .u8 (pby 10 (Z r) 256 j)) rfl ?c1 ?c2 ?c3 ?c4 ?c5 ?c6 ?_))
            case c1 => simp
            case c2 => exact news_rd (Blk.rd (L := 0) hbp (by omega) (fun j _ => by rw [Nat.zero_add]))
            case c3 => exact one_bl (pby 10 (Z r) 256) 320
            case c4 => simp only [maxLen]; omega
            case c5 => omega
            case c6 => exact hs1
            intro v7 w7 hown7 hgr7 _
            rw [bl_and (pkb rho Z) (pby 10 (Z r) 256) (32 + 320 * r) 320 (fun j hj => (pkb_at _ _ _ _ hj).symm)] at hown7
            have hlt7 := hown.lt
            have hB7 := hbe.grown hgr7 hs1 (fun k hk => (hlt7 k hk).1)
            have f7 : Blk w7 w.heap.size .u8 32 rho 22 := by
              unfold Blk at *
              rw [hgr7.block w.heap.size (Array.getElem?_eq_some_iff.1 f4).1 (fun e => hne e.symm)]
              exact f4
            go_wp2_with fail
            go_roundw
            case rel => exact ⟨r + 1, by omega, by go_num, by rw [show 32 + 320 * (r + 1) = 32 + 320 * r + 320 from by omega]; exact hown7, hB7, f7⟩
            case measure => simp [intOf]; omega
          · obtain rfl : r = kk s := by omega
            obtain ⟨g9, c9, rfl, hg9, _, _, hr9⟩ := rd_of_owns (by omega) hown
            go_wp2_with fail
            refine (implPkEncode s 32 ⟨w.heap.size, 0, none⟩ (some x) cap rho Z _ hs3 (hp.below hbe) (Blk.rd (L := 0) f4 (Nat.le_refl _) (fun j _ => by rw [Nat.zero_add])) (isMat_le H.out hbe) HZ.out).mono ?_
            rintro e w8 ⟨g8, c8, rfl, hg8, hr8, hb8⟩
            go_wp2_with fail
            refine (lwAlike ⟨g8, 0, none⟩ ⟨g9, 0, none⟩ (32 + 320 * kk s) c8 c9 _ _ _ hr8 (hr9.below hb8) (fun _ _ => rfl)).mono ?_
            rintro e w' ⟨rfl, rfl⟩
            go_wp2_with fail
            go_ret
            exact ⟨rfl, belowChain hbe hb8 hbe.size⟩
    · have hne : ((len : Int) != ((kk s : Nat) : Int)) = true := by simp; omega
      go_wp2_with (first | (with_reducible refine at_store 25 _ _ rfl ?_; refine wpList_store_arr iSet rfl _ _ rfl _ rfl rfl (Blk.zeros8 _ _ rfl) ?_))
      go_ret
      exact ⟨rfl, hB2⟩

end Go.Proofs.YteigpbeamdhjpaaDoor
