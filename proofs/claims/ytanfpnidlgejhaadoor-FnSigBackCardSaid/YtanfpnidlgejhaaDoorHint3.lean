/-
  The hints of a law.
-/
import Derived.Test.YtanfpnidlgejhaaDoorHint2
namespace Go.Proofs.YtanfpnidlgejhaaDoor
open Go.RowKit

theorem range_rows (f : Nat → Value) (r : Nat) : (List.range (r * 256)).map f ++ (List.range 256).map (fun j => f (r * 256 + j)) = (List.range ((r + 1) * 256)).map f := by
  rw [Nat.succ_mul, List.range_add, List.map_append, List.map_map]
  rfl
theorem rows_more (F : Nat → Nat → Value) (r : Nat) : (List.range (r * 256)).map (fun p => F (p / 256) (p % 256)) ++ (List.range 256).map (fun j => F r j) = (List.range ((r + 1) * 256)).map (fun p => F (p / 256) (p % 256)) := by
  rw [← range_rows]
  congr 1
  exact List.map_congr_left fun j hj => by
    have := List.mem_range.1 hj
    rw [show (r * 256 + j) / 256 = r from by omega, show (r * 256 + j) % 256 = j from by omega]
theorem news_row (w : World) (k : IntKind) (z : Nat → Int) (t : TypeId) : ∀ j u, ((List.range 256).map fun i => Value.int k (z i))[j]? = some u → (w.alloc (.cells (arr k 256 z) t)).cell? ((⟨w.heap.size, 0, none⟩ : Addr).add j) = some u := by
  intro j u hj
  have hjl : j < 256 := by
    have := (List.getElem?_eq_some_iff.1 hj).1
    simpa using this
  rw [Addr.add_mid, Nat.zero_add, (Blk.new w k 256 z t rfl).cell hjl]
  simpa [hjl] using hj
theorem news_rowb (w : World) (z : Nat → Bool) (t : TypeId) : ∀ j u, ((List.range 256).map fun i => Value.bool (z i))[j]? = some u → (w.alloc (.cells (barr 256 z) t)).cell? ((⟨w.heap.size, 0, none⟩ : Addr).add j) = some u := by
  intro j u hj
  have hjl : j < 256 := by
    have := (List.getElem?_eq_some_iff.1 hj).1
    simpa using this
  rw [Addr.add_mid, Nat.zero_add, (BBlk.new w 256 z t rfl).cell hjl]
  simpa [hjl] using hj
theorem Blk.grownBy {w w' : World} {g n : Nat} {k : IntKind} {z : Nat → Int} {t : TypeId} {row : Option Nat} (h : Blk w g k n z t) (hg : w.grownBy w' row) (hne : row ≠ some g) : Blk w' g k n z t := by
  unfold Blk at *
  rw [hg.block g (Array.getElem?_eq_some_iff.1 h).1 (fun e => hne e.symm), h]
theorem BBlk.ex {w w1 : World} {g b n : Nat} {z : Nat → Bool} {t : TypeId} (hb : BBlk w b n z t) (h : Ex g w w1) (hne : b ≠ g) : BBlk w1 b n z t := by
  unfold BBlk at *
  rw [h.block b (Array.getElem?_eq_some_iff.1 hb).1 hne, hb]
theorem owns_owns {w : World} {base base' : Nat} {e e' : TypeId} {size size' n n' : Nat} {v v' : Value} {xs xs' : List Value} (h : w.ownsRow base e size v n xs) (h' : w.ownsRow base' e' size' v' n' xs') (ht : e ≠ e') : v.ownBlock = none ∨ v.ownBlock ≠ v'.ownBlock := by
  obtain ⟨_, ⟨h1, _⟩ | ⟨g, c, cur, h1, _, hh, _⟩⟩ := h
  · left; rw [h1]; rfl
  · right
    obtain ⟨_, ⟨h1', _⟩ | ⟨g', c', cur', h1', _, hh', _⟩⟩ := h'
    · rw [h1, h1']; simp [Value.ownBlock]
    · rw [h1, h1']
      simp only [Value.ownBlock, ne_eq, Option.some.injEq]
      intro hg
      subst hg
      rw [hh] at hh'
      simp at hh'
      exact ht hh'.2
section
variable {P : Program}
theorem barr_cells_list (n : Nat) (z : Nat → Bool) : (Value.agg (barr n z)).cells.toList.toArray = barr n z := by
  simp [Value.cells]
theorem wpList_build1b {ops : Array Oper} {rest : List Oper} {o : Oper} {a : Act} {w : World} {Q : Exit → Act → World → Prop} {n : Nat} {z : Nat → Bool} {t e : TypeId} (hu : P.underlying t = some (.slice e)) (hi : ∃ i zz, P.info? e = some i ∧ i.zero = some zz ∧ i.size = n ∧ zz.cells.size = n) (h0 : 0 < n) (hn : n ≤ 16777216)
    (hgd : o.guard = none) (x : Operand) (ho : o.op = .buildSlice t 1 #[(0, x)]) (hx : a.eval x = .agg (barr n z))
    (h : wpList P ops Q rest (a.put o.dst (.slice (some ⟨w.heap.size, 0, none⟩) 1 1)) (w.alloc (.cells (barr n z) e))) : wpList P ops Q (o :: rest) a w := by
  obtain ⟨i, zz, hi, hz, hs, hzs⟩ := hi
  refine wpList_buildSlice hgd t e 1 _ ho (barr n z) i zz hu hi hz (by rw [hs]; omega) (by rw [hs]; omega) ?_ h
  have hf := Great.fill_whole (s := n) h0 [.agg (barr n z)] ((Array.range (1 * i.size)).map (zz.cells[· % zz.cells.size]!)) (fun v hv => by simp at hv; subst hv; exact barr_size n z) (by simp [hs])
  rw [hs]
  rw [hs] at hf
  simp only [List.map_toArray, List.map_cons, List.map_nil, hx]
  simpa [Value.cells] using hf
end
theorem matB_of_owns {w : World} {e : TypeId} {base n : Nat} {v : Value} {Z : Nat → Nat → Bool} (h0 : 0 < n) (h : w.ownsRow base e 256 v n ((List.range (n * 256)).map fun p => Value.bool (Z (p / 256) (p % 256)))) :
    ∃ g c, v = .slice (some ⟨g, 0, none⟩) n c ∧ base ≤ g ∧ MatB w ⟨g, 0, none⟩ n Z := by
  obtain ⟨_, ⟨h1, h2⟩ | ⟨g, c, cur, hv, hg, hh, hc, hm, hs, ht⟩⟩ := h
  · omega
  · refine ⟨g, c, hv, hg, fun r hr j hj => ?_⟩
    have hlt : r * 256 + j < n * 256 := by
      have : (r + 1) * 256 ≤ n * 256 := Nat.mul_le_mul_right 256 (by omega)
      omega
    rw [Addr.add_mid, Nat.zero_add, cell_of_row w g _ _ _ _ hh]
    have := congrArg (·[r * 256 + j]?) ht
    simp only [List.getElem?_take, hlt, if_true] at this
    rw [← Array.getElem?_toList, this]
    simp only [List.getElem?_map, List.getElem?_range hlt, Option.map_some]
    rw [show (r * 256 + j) / 256 = r from by omega, show (r * 256 + j) % 256 = j from by omega]

theorem mInfoL : ∃ i z, Tryd.prog.info? 65 = some i ∧ i.zero = some z ∧ i.size = 256 ∧ i.bytes = 256 ∧ z.cells.size = 256 := by
  have h : (Tryd.prog.info? 65).map (fun i => (i.zero.map (·.cells.size), i.size, i.bytes)) = some (some 256, 256, 256) := by kernel_rfl
  cases hi : Tryd.prog.info? 65 with
  | none => rw [hi] at h; cases h
  | some i =>
    rw [hi] at h
    simp only [Option.map_some, Option.some.injEq, Prod.mk.injEq] at h
    obtain ⟨h1, h2, h3⟩ := h
    cases hz : i.zero with
    | none => rw [hz] at h1; cases h1
    | some z =>
      rw [hz] at h1
      simp only [Option.map_some, Option.some.injEq] at h1
      exact ⟨i, z, rfl, hz, h2, h3, h1⟩
theorem lwOneT (w : World) : Calls Tryd.prog 28 #[.bool true] w fun e w' => e = .returned (.int .u8 1) ∧ w = w' := by
  go_enter Tryd.func28, Tryd.ntmps28
  go_wp2
  go_ret
  exact ⟨rfl, rfl⟩
theorem lwOneF (w : World) : Calls Tryd.prog 28 #[.bool false] w fun e w' => e = .returned (.int .u8 0) ∧ w = w' := by
  go_enter Tryd.func28, Tryd.ntmps28
  go_wp2
  go_ret
  exact ⟨rfl, rfl⟩

/-- What the hints of a law leave behind. -/
def OPost (s len : Nat) (H : Nat → Nat → Bool) (w : World) (e : Ending) (w' : World) : Prop := (∃ v v8, e = .returned (.tuple #[v, v8, .bool (decide (len = kk s) && decide (hc H (256 * len) ≤ om s))]) ∧ w'.ownsRow w.heap.size 65 256 v len ((List.range (len * 256)).map (fun p => Value.bool (H (p / 256) (p % 256)))) ∧ w'.ownsRow w.heap.size 66 256 v8 len ((List.range (len * 256)).map (fun p => Value.int .u8 (hb H (p / 256) (p % 256))))) ∧ Below w.heap.size w w'
theorem hc_top (H : Nat → Nat → Bool) (p : Nat) : hc H p ≤ p := by
  induction p with
  | zero => exact Nat.le_refl _
  | succ p ih => rw [hc]; split <;> omega
set_option maxRecDepth 100000 in
set_option maxHeartbeats 1000000 in
theorem hintsOfX (s : Nat) (ad : Option Addr) (len cap : Nat) (H : Nat → Nat → Bool) (w : World) (hs : s < 3) (hl : len ≤ 2147483647) (hm : len = 0 ∨ ∃ x, ad = some x ∧ MatB w x len H) :
    Calls Tryd.prog 15 #[.agg (arr .i64 8 (ss s)), .slice ad len cap] w (OPost s len H w) := by
  unfold OPost
  obtain ⟨hk0, hk1⟩ := kk_bd s hs
  obtain ⟨ho0, ho1⟩ := om_bd s hs
  obtain ⟨i, z, hi, hz0, hz1, hz2, hz3⟩ := mInfoL
  obtain ⟨i8, z8, ki, kz0, kz1, kz2, kz3⟩ := mInfoB8
  have hu1 : ∃ i zz, Tryd.prog.info? 65 = some i ∧ i.zero = some zz ∧ i.size = 256 ∧ zz.cells.size = 256 := ⟨i, z, hi, hz0, hz1, hz3⟩
  have hu8 : ∃ i zz, Tryd.prog.info? 66 = some i ∧ i.zero = some zz ∧ i.size = 256 ∧ zz.cells.size = 256 := ⟨i8, z8, ki, kz0, kz1, kz3⟩
  have hkp := kk_ss s hs
  have hop := om_ss s hs
  have HM := Lib.hid hm; clear hm
  obtain ⟨K, hK⟩ : ∃ K, K = kk s := ⟨_, rfl⟩
  obtain ⟨O, hO⟩ : ∃ O, O = om s := ⟨_, rfl⟩
  rw [← hK] at hk0 hk1 hkp ⊢
  rw [← hO] at ho0 ho1 hop ⊢
  clear hK hO
  have f2 := Blk.new (g := w.heap.size) w .i64 8 (ss s) 24 rfl
  go_enter Tryd.func15, Tryd.ntmps15
  go_wp2_with fail
  have hown : ((((w.alloc (.cells (arr .i64 8 (ss s)) 24)).alloc (.cells #[] 65)).alloc (.cells #[] 66))).ownsRow w.heap.size 65 256 (.slice (some ⟨w.heap.size + 1, 0, none⟩) 0 0) 0 [] := (by simpa using ownsRow_emptyM (w.alloc (.cells (arr .i64 8 (ss s)) 24)) 65 w.heap.size (by simp) : ((w.alloc (.cells (arr .i64 8 (ss s)) 24)).alloc (.cells #[] 65)).ownsRow w.heap.size 65 256 (.slice (some ⟨w.heap.size + 1, 0, none⟩) 0 0) 0 []).alloc _
  have hown8 : ((((w.alloc (.cells (arr .i64 8 (ss s)) 24)).alloc (.cells #[] 65)).alloc (.cells #[] 66))).ownsRow w.heap.size 66 256 (.slice (some ⟨w.heap.size + 1 + 1, 0, none⟩) 0 0) 0 [] := by simpa using ownsRow_emptyM ((w.alloc (.cells (arr .i64 8 (ss s)) 24)).alloc (.cells #[] 65)) 66 w.heap.size (by simp; omega)
  have hbe : Below w.heap.size w (((w.alloc (.cells (arr .i64 8 (ss s)) 24)).alloc (.cells #[] 65)).alloc (.cells #[] 66)) := (((Below.refl _ _).alloc (Nat.le_refl _) _).alloc (by simp) _).alloc (by simp; omega) _
  have f2 := (f2.alloc (.cells #[] 65)).alloc (.cells #[] 66)
  go_loopw [7, 8, 9, 19] (fun v v8 x t wr => ∃ r : Nat, r ≤ len ∧ t = .int .i64 (r : Int) ∧ x = .int .i64 (hc H (256 * r) : Int) ∧ wr.ownsRow w.heap.size 65 256 v r ((List.range (r * 256)).map (fun p => Value.bool (H (p / 256) (p % 256)))) ∧ wr.ownsRow w.heap.size 66 256 v8 r ((List.range (r * 256)).map (fun p => Value.int .u8 (hb H (p / 256) (p % 256)))) ∧ Blk wr w.heap.size .i64 8 (ss s) 24 ∧ Below w.heap.size w wr) (fun _ _ _ t _ => len - (intOf t).toNat)
  case atStart => exact ⟨0, by omega, rfl, rfl, hown, hown8, f2, hbe⟩
  case round =>
    clear hown hown8 f2 hbe
    obtain ⟨r, hr, rfl, rfl, hown, hown8, f2, hbe⟩ := hrel
    have hsz := hbe.size
    by_cases hlt : r < len
    · obtain ⟨x, rfl, hmx⟩ : ∃ x, ad = some x ∧ MatB w x len H := by
        rcases HM.out with h0 | h0
        · omega
        · exact h0
      have hrw := Lib.hid ((hmx.below hbe).row r hlt)
      clear hmx
      go_wp2_with (first | (with_reducible refine at_loadx 65 21 rfl ?_; refine wpList_load_atb Tryd.underlying65 iL rfl _ rfl (x.add (r * 256)) rfl hrw.out ?_) | (with_reducible refine at_storex 65 11 _ rfl ?_; refine wpList_store_barr iL rfl _ _ rfl _ rfl rfl (BBlk.new wr 256 (fun _ => false) 65 rfl) ?_) | (with_reducible refine at_storex 66 12 _ rfl ?_; refine wpList_store_arr iB rfl _ _ rfl _ rfl rfl (Blk.new ((wr.alloc (.cells (barr 256 fun _ => false) 65)).setRow wr.heap.size (barr 256 (H r))) .u8 256 (fun _ => 0) 66 (by simp)) ?_) | (with_reducible refine at_loadx 65 11 rfl ?_; refine wpList_load_barr Tryd.underlying65 iL rfl _ rfl _ rfl ((((BBlk.new wr 256 (fun _ => false) 65 rfl).row (H r)).alloc _).rowOther _ _ (by simp)) ?_))
      obtain ⟨W7, hW7⟩ : ∃ W7 : World, W7 = (((wr.alloc (.cells (barr 256 fun _ => false) 65)).setRow wr.heap.size (barr 256 (H r))).alloc (.cells (arr .u8 256 fun _ => 0) 66)).setRow (wr.heap.size + 1) (arr .u8 256 (fun _ => 0)) := ⟨_, rfl⟩
      have h12 : Blk W7 (wr.heap.size + 1) .u8 256 (fun _ => 0) 66 := by
        rw [hW7]
        exact (Blk.new _ _ _ _ _ (by simp)).row _ _
      have f11 : BBlk W7 wr.heap.size 256 (H r) 65 := by
        rw [hW7]
        exact ((((BBlk.new wr 256 (fun _ => false) 65 rfl).row (H r)).alloc _).rowOther _ _ (by simp))
      have hst : Below wr.heap.size wr W7 := by
        rw [hW7]
        exact below_setRow ((below_setRow ((Below.refl _ _).alloc (Nat.le_refl _) (.cells (barr 256 fun _ => false) 65)) (Nat.le_refl _) (barr 256 (H r))).alloc (by simp) (.cells (arr .u8 256 fun _ => 0) 66)) (by omega) _
      rw [← hW7]
      clear hW7 hrw
      obtain ⟨G, hG⟩ : ∃ G, G = wr.heap.size := ⟨_, rfl⟩
      rw [← hG] at h12 f11 hst ⊢
      have HG := Lib.hid hG; clear hG
      go_loopw [9, 25] (fun y t ws => ∃ j : Nat, j ≤ 256 ∧ t = .int .i64 (j : Int) ∧ y = .int .i64 (hc H (256 * r + j) : Int) ∧ Blk ws (G + 1) .u8 256 (fun i => if i < j then hb H r i else 0) 66 ∧ BBlk ws G 256 (H r) 65 ∧ Below G wr ws) (fun _ t _ => 256 - (intOf t).toNat)
      case atStart => exact ⟨0, by omega, rfl, rfl, h12.congr (fun j _ => (if_neg (by omega)).symm), f11, hst⟩
      case round =>
        clear h12 f11 hst
        obtain ⟨j, hj, rfl, rfl, h12, f11, hst⟩ := hrel
        have hsz : G ≤ wr.heap.size := by
          rw [HG.out]
          exact hst.size
        by_cases hjl : j < 256
        · have hat := hc_at H r j hjl
          have htp := hc_top H (256 * r + (j + 1))
          obtain ⟨C, hC⟩ : ∃ C, C = hc H (256 * r + j) := ⟨_, rfl⟩
          rw [← hC] at hat ⊢
          clear hC
          have hix := ixL (H r) j hjl
          cases hH : H r j with
          | true =>
            simp only [hH, if_true] at hix hat
            go_wp2_with (first | (with_reducible refine at_store 5 _ _ rfl ?_; refine wpList_store_int Tryd.sizeOf5 rfl _ _ rfl _ _ rfl _ rfl h12 (by omega) ?_; intro wn hn he; replace hst := hst.trans (he.below hsz (by omega)); replace f11 := f11.ex he (by omega); clear h12; have h12 := hn; have hcl : wn.cell? ⟨G + 1, j, none⟩ = some (.int .u8 1) := (hn.cell hjl).trans (by simp); clear hn he) | (with_reducible refine at_load 5 _ rfl ?_; refine wpList_load_int Tryd.isAgg5 rfl _ rfl _ _ rfl _ hcl ?_) | (go_at_call 28; refine (lwOneT _).mono ?_; rintro e w' ⟨rfl, rfl⟩))
            go_roundw
            case rel => exact ⟨j + 1, by omega, by go_num, by rw [hat]; simp, h12.congr (fun p _ => by
              by_cases e : p = j
              · subst e; simp [hb, hH]
              · simp only [if_neg e]
                by_cases e2 : p < j
                · rw [if_pos e2, if_pos (by omega)]
                · rw [if_neg e2, if_neg (by omega)]), f11, hst⟩
            case measure => simp [intOf]; omega
          | false =>
            simp only [hH] at hix hat
            go_wp2_with (first | (with_reducible refine at_store 5 _ _ rfl ?_; refine wpList_store_int Tryd.sizeOf5 rfl _ _ rfl _ _ rfl _ rfl h12 (by omega) ?_; intro wn hn he; replace hst := hst.trans (he.below hsz (by omega)); replace f11 := f11.ex he (by omega); clear h12; have h12 := hn; have hcl : wn.cell? ⟨G + 1, j, none⟩ = some (.int .u8 0) := (hn.cell hjl).trans (by simp); clear hn he) | (with_reducible refine at_load 5 _ rfl ?_; refine wpList_load_int Tryd.isAgg5 rfl _ rfl _ _ rfl _ hcl ?_) | (go_at_call 28; refine (lwOneF _).mono ?_; rintro e w' ⟨rfl, rfl⟩))
            go_roundw
            case rel => exact ⟨j + 1, by omega, by go_num, by rw [hat]; simp, h12.congr (fun p _ => by
              by_cases e : p = j
              · subst e; simp [hb, hH]
              · simp only [if_neg e]
                by_cases e2 : p < j
                · rw [if_pos e2, if_pos (by omega)]
                · rw [if_neg e2, if_neg (by omega)]), f11, hst⟩
            case measure => simp [intOf]; omega
        · obtain rfl : j = 256 := by omega
          have h12 : Blk _ (G + 1) .u8 256 (hb H r) 66 := h12.congr fun p hp => if_pos hp
          rw [HG.out] at hst
          have hown := ownsRow_below hown hst
          have hown8 := ownsRow_below hown8 hst
          have f2 := f2.below hst
          have hbe := belowChain hbe hst hbe.size
          have hs1 := hbe.size
          clear hst hsz
          go_wp2_with (first | (with_reducible refine at_loadx 65 11 rfl ?_; refine wpList_load_barr Tryd.underlying65 iL rfl _ rfl _ rfl (f11) ?_) | (with_reducible refine at_bs _ _ _ rfl ?_; refine wpList_build1b (n := 256) (z := H r) Tryd.underlying34 hu1 (by decide) (by decide) rfl _ rfl rfl ?_) | (at_builtin; refine wpList_append_own _ rfl _ _ 34 rfl w.heap.size 65 i z 256 256 Tryd.underlying34 hi hz0 hz1 hz2 hz3 (by decide) _ _ _ rfl (hown.alloc _) ⟨wr.heap.size, 0, none⟩ 1 1 ((List.range 256).map fun j => Value.bool (H r j)) rfl ?c1 ?c2 ?c3 ?c4 ?c5 ?c6 ?_))
          case c1 => simp
          case c2 => exact news_rowb _ (H r) _
          case c3 =>
            intro u hu
            obtain ⟨j, _, rfl⟩ := List.mem_map.1 hu
            rfl
          case c4 => simp only [maxLen]; omega
          case c5 => omega
          case c6 => exact Nat.le_trans hs1 (by simp)
          intro v4 w4 hown4 hgr4 _
          have e4 : (List.range (r * 256)).map (fun p => Value.bool (H (p / 256) (p % 256))) ++ (List.range 256).map (fun j => Value.bool (H r j)) = (List.range ((r + 1) * 256)).map (fun p => Value.bool (H (p / 256) (p % 256))) := rows_more (fun r j => Value.bool (H r j)) r
          rw [e4] at hown4
          clear e4
          have hA := hown.alloc (.cells (barr 256 (H r)) 65)
          have hlt4 := hA.lt
          have hown8 := (hown8.alloc (.cells (barr 256 (H r)) 65)).kept hgr4 (owns_owns (hown8.alloc _) hA (by decide))
          have f2 := (f2.alloc (.cells (barr 256 (H r)) 65)).grownBy hgr4 (owns_ne hA (f2.alloc _) (by decide))
          have h12 := (h12.alloc (.cells (barr 256 (H r)) 65)).grownBy hgr4 (owns_ne hA (h12.alloc _) (by decide))
          have hbe := (hbe.alloc hs1 (.cells (barr 256 (H r)) 65)).grown hgr4 (Nat.le_trans hs1 (by simp)) (fun k hk => (hlt4 k hk).1)
          have hs4 := hbe.size
          clear hown hA hlt4 hgr4 hs1 f11
          go_wp2_with (first | (with_reducible refine at_loadx 66 12 rfl ?_; refine wpList_load_arr Tryd.underlying66 iB rfl _ rfl _ rfl (h12) ?_) | (with_reducible refine at_bs _ _ _ rfl ?_; refine wpList_build1 (k := .u8) (n := 256) (z := hb H r) Tryd.underlying28 hu8 (by decide) (by decide) rfl _ rfl rfl ?_) | (at_builtin; refine wpList_append_own _ rfl _ _ 28 rfl w.heap.size 66 i8 z8 256 256 Tryd.underlying28 ki kz0 kz1 kz2 kz3 (by decide) _ _ _ rfl (hown8.alloc _) ⟨w4.heap.size, 0, none⟩ 1 1 ((List.range 256).map fun j => Value.int .u8 (hb H r j)) rfl ?c1 ?c2 ?c3 ?c4 ?c5 ?c6 ?_))
          case c1 => simp
          case c2 => exact news_row _ .u8 (hb H r) _
          case c3 =>
            intro u hu
            obtain ⟨j, _, rfl⟩ := List.mem_map.1 hu
            rfl
          case c4 => simp only [maxLen]; omega
          case c5 => omega
          case c6 => exact Nat.le_trans hs4 (by simp)
          intro v5 w5 hown5 hgr5 _
          have e5 : (List.range (r * 256)).map (fun p => Value.int .u8 (hb H (p / 256) (p % 256))) ++ (List.range 256).map (fun j => Value.int .u8 (hb H r j)) = (List.range ((r + 1) * 256)).map (fun p => Value.int .u8 (hb H (p / 256) (p % 256))) := rows_more (fun r j => Value.int .u8 (hb H r j)) r
          rw [e5] at hown5
          clear e5
          have hA := hown8.alloc (.cells (arr .u8 256 (hb H r)) 66)
          have hlt5 := hA.lt
          have hown := (hown4.alloc (.cells (arr .u8 256 (hb H r)) 66)).kept hgr5 (owns_owns (hown4.alloc _) hA (by decide))
          have f2 := (f2.alloc (.cells (arr .u8 256 (hb H r)) 66)).grownBy hgr5 (owns_ne hA (f2.alloc _) (by decide))
          have hbe := (hbe.alloc hs4 (.cells (arr .u8 256 (hb H r)) 66)).grown hgr5 (Nat.le_trans hs4 (by simp)) (fun k hk => (hlt5 k hk).1)
          clear hown8 hown4 hA hlt5 hgr5 hs4 h12
          go_wp2_with fail
          go_roundw
          case rel => exact ⟨r + 1, by omega, by go_num, by rw [show 256 * (r + 1) = 256 * r + 256 from by omega], hown, hown5, f2, hbe⟩
          case measure => simp [intOf]; omega
    · obtain rfl : r = len := by omega
      have hck := f2.cellv 0 (K : Int) (by omega) hkp
      have hco := f2.cellv 6 (O : Int) (by omega) hop
      have hch := hc_top H (256 * r)
      clear HM hu1 hu8 hi hz0 hz1 hz2 hz3 ki kz0 kz1 kz2 kz3
      by_cases hK : r = K
      · have hek : ((r : Int) == (K : Int)) = true := by simp [hK]
        go_wp2_with fail
        refine wp_region_quiet_lit (by kernel_rfl) (by kernel_rfl) ?_
        repeat (go_big_quiet_step (fail))
        refine wpQuiet_nil ?_
        intro _ hw'
        obtain ⟨nq, hw''⟩ := hw'
        subst hw''
        have hd : Below wr.heap.size wr (wr.drewN nq) := ⟨rfl, rfl, rfl, Nat.le_refl _, fun _ _ => rfl⟩
        go_wp2_with fail
        go_ret3
        exact ⟨⟨_, _, by simp [hK], ownsRow_below hown hd, ownsRow_below hown8 hd⟩, belowChain hbe hd hbe.size⟩
      · have hek : ((r : Int) == (K : Int)) = false := by simp; omega
        go_wp2_with fail
        refine wp_region_quiet_lit (by kernel_rfl) (by kernel_rfl) ?_
        repeat (go_big_quiet_step (fail))
        refine wpQuiet_nil ?_
        intro _ hw'
        obtain ⟨nq, hw''⟩ := hw'
        subst hw''
        have hd : Below wr.heap.size wr (wr.drewN nq) := ⟨rfl, rfl, rfl, Nat.le_refl _, fun _ _ => rfl⟩
        go_wp2_with fail
        go_ret3
        exact ⟨⟨_, _, by simp [hK], ownsRow_below hown hd, ownsRow_below hown8 hd⟩, belowChain hbe hd hbe.size⟩

end Go.Proofs.YtanfpnidlgejhaaDoor
