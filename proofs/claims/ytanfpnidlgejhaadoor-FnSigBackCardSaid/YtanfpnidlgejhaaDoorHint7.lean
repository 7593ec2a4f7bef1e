/-
  Hints read: the reference.
-/
import Derived.Test.YtanfpnidlgejhaaDoorHint5
namespace Go.Proofs.YtanfpnidlgejhaaDoor
open Go.RowKit

theorem barr_congr {n : Nat} {y z : Nat → Bool} (h : ∀ i, i < n → y i = z i) : barr n y = barr n z := by
  apply Array.ext_getElem?
  intro i
  by_cases hi : i < n
  · rw [barr_get _ _ _ hi, barr_get _ _ _ hi, h i hi]
  · simp [barr, hi]
theorem barr_set (n : Nat) (z : Nat → Bool) (i : Nat) (v : Bool) : (barr n z).setIfInBounds i (.bool v) = barr n (fun j => if j = i then v else z j) := by
  apply Array.ext_getElem?
  intro j
  by_cases hj : j < n
  · rw [barr_get _ _ _ hj, Array.getElem?_setIfInBounds]
    by_cases e : i = j
    · subst e; simp [barr_size, hj]
    · simp [e, Ne.symm e, barr_get _ _ _ hj]
  · simp [barr, hj]
theorem BBlk.set {w : World} {g n : Nat} {z : Nat → Bool} {t : TypeId} (h : BBlk w g n z t) (i : Nat) (v : Bool) : BBlk (w.setCell ⟨g, i, none⟩ (.bool v)) g n (fun j => if j = i then v else z j) t := by
  unfold BBlk at *
  rw [heap_setCell_same w g i _ t _ h, barr_set]
theorem BBlk.congr {w : World} {g n : Nat} {y z : Nat → Bool} {t : TypeId} (h : BBlk w g n y t) (e : ∀ i, i < n → y i = z i) : BBlk w g n z t := by
  unfold BBlk at *
  rw [h, barr_congr e]
theorem BBlk.frozen {w : World} {g n : Nat} {z : Nat → Bool} {t : TypeId} (h : BBlk w g n z t) (i : Nat) : w.frozen? ⟨g, i, none⟩ = false := by
  unfold BBlk at h
  simp [World.frozen?, h]
section
variable {P : Program}
theorem wpList_store_bool {ops : Array Oper} {rest : List Oper} {o : Oper} {a : Act} {w : World} {Q : Exit → Act → World → Prop} {ty : TypeId} (hs : ∀ w, (sizeOf ty).run P w = .ok 1 w) (hgd : o.guard = none) (x y : Operand) (ho : o.op = .store ty x y)
    (g i : Nat) (hx : a.eval x = .pointer (some ⟨g, i, none⟩)) {n : Nat} {z : Nat → Bool} {t : TypeId} (v : Bool) (hy : a.eval y = .bool v) (hb : BBlk w g n z t) (hi : i < n)
    (h : ∀ w', BBlk w' g n (fun j => if j = i then v else z j) t → Ex g w w' → wpList P ops Q rest (a.put o.dst undef) w') : wpList P ops Q (o :: rest) a w := by
  refine wpList_plain hgd fun K hK => ?_
  have hc := hb.cell hi
  have hf := hb.frozen i
  unfold Oper.wp
  simp [execOp, ho, hx, hy, Instr.storeAt, Instr.sureAddr, storeVar, Value.cells, hs, storeCells, Result.andThen, show (⟨g, i, none⟩ : Addr).add 0 = ⟨g, i, none⟩ from rfl, run_store_bool, stored, hc, hf]
  exact hK _ _ (h _ (hb.set i v) (Ex.setCell _ _ _ _))
theorem madeCells_barr (m n : Nat) (hm : 0 < m) : madeCells (Value.agg (barr m fun _ => false)).cells n = barr n (fun _ => false) := by
  apply Array.ext_getElem?
  intro i
  show (madeCells (barr m fun _ => false) n)[i]? = _
  by_cases hi : i < n
  · rw [barr_get _ _ _ hi]
    have hlt : i % m < m := Nat.mod_lt _ hm
    simp [madeCells, hi, barr]
    simp [hlt]
  · simp [madeCells, barr, hi]
theorem wpList_make_barr {ops : Array Oper} {rest : List Oper} {o : Oper} {a : Act} {w : World} {Q : Exit → Act → World → Prop} {t e : TypeId} {m B : Nat} (hu : P.underlying t = some (.slice e)) (hi : ∃ i, P.info? e = some i ∧ i.zero = some (.agg (barr m fun _ => false)) ∧ i.size = m ∧ i.bytes ≤ B) (hm : 0 < m) (hBB : B ≤ 4096)
    (hgd : o.guard = none) (l c : Operand) (ho : o.op = .makeSlice t l c) (kl kc : IntKind) (L n : Nat) (VL VC : Int) (hl : a.eval l = .int kl VL) (hc : a.eval c = .int kc VC) (eL : VL = (L : Int)) (eC : VC = (n : Int)) (hLn : L ≤ n) (hn : n ≤ 1048576)
    (h : wpList P ops Q rest (a.put o.dst (.slice (some ⟨w.heap.size, 0, none⟩) L n)) (w.alloc (.cells (barr (n * m) fun _ => false) e))) : wpList P ops Q (o :: rest) a w := by
  refine wpList_plain hgd fun K hK => ?_
  subst eL
  subst eC
  obtain ⟨i, hi, hz, hs, hb⟩ := hi
  have hb' : (i.bytes : Int) * (n : Int) ≤ 281474976710656 := by
    have : i.bytes * n ≤ 4096 * 1048576 := Nat.mul_le_mul (by omega) hn
    have h2 : ((i.bytes * n : Nat) : Int) ≤ 281474976710656 := by omega
    rwa [Int.natCast_mul] at h2
  have hr := run_make (P := P) w t e i _ hu hi hz kl kc L n (by omega) (by omega) hb' (by omega)
  rw [Int.toNat_natCast, Int.toNat_natCast, hs, madeCells_barr _ _ hm] at hr
  unfold Oper.wp
  simp [execOp, ho, hl, hc, hr, Result.andThen]
  exact hK _ _ h
end

theorem mInfoL2 : ∃ i, Tryd.prog.info? 65 = some i ∧ i.zero = some (.agg (barr 256 fun _ => false)) ∧ i.size = 256 ∧ i.bytes ≤ 256 := by
  have h : (Tryd.prog.info? 65).map (fun i => (i.zero, i.size, i.bytes)) = some (some (.agg (Array.replicate 256 (.bool false))), 256, 256) := by kernel_rfl
  rw [barr_rep] at h
  cases hi : Tryd.prog.info? 65 with
  | none => rw [hi] at h; cases h
  | some i =>
    rw [hi] at h
    simp only [Option.map_some, Option.some.injEq, Prod.mk.injEq] at h
    exact ⟨i, rfl, h.1, h.2.1, by omega⟩
/-- What the reference leaves behind. -/
def UHPost (s : Nat) (b : Nat → Int) (w : World) (e : Ending) (w' : World) : Prop := ((okA b (om s) (kk s) ∧ ∃ gh, e = .returned (.tuple #[.slice (some ⟨gh, 0, none⟩) (kk s) (kk s), .bool true]) ∧ w.heap.size ≤ gh ∧ BBlk w' gh (kk s * 256) (fun p => decide (drow b (om s) (kk s) p ≠ 0)) 65) ∨ (¬ okA b (om s) (kk s) ∧ e = .returned (.tuple #[.slice none 0 0, .bool false]))) ∧ Below w.heap.size w w'
set_option maxRecDepth 100000 in
set_option maxHeartbeats 1000000 in
theorem unpackHints (s c : Nat) (x : Addr) (b : Nat → Int) (w : World) (hs : s < 3) (hr : Rd .u8 w x (om s + kk s) b) (hb : ∀ i, i < om s + kk s → 0 ≤ b i ∧ b i < 256) :
    Calls Tryd.prog 10 #[.agg (arr .i64 8 (ss s)), .slice (some x) (om s + kk s) c] w (UHPost s b w) := by
  unfold UHPost
  obtain ⟨hk0, hk1⟩ := kk_bd s hs
  obtain ⟨ho0, ho1⟩ := om_bd s hs
  have hxl := hr.lt (by omega)
  have hkp := kk_ss s hs
  have hop := om_ss s hs
  have HR := Lib.hid hr; clear hr
  have HB := Lib.hid hb; clear hb
  obtain ⟨K, hK⟩ : ∃ K, K = kk s := ⟨_, rfl⟩
  obtain ⟨O, hO⟩ : ∃ O, O = om s := ⟨_, rfl⟩
  rw [← hK] at hk0 hk1 hkp HR HB ⊢
  rw [← hO] at ho0 ho1 hop HR HB ⊢
  clear hK hO
  have f2 := Blk.new (g := w.heap.size) w .i64 8 (ss s) 24 rfl
  have hck := f2.cellv 0 (K : Int) (by omega) hkp
  go_enter Tryd.func10, Tryd.ntmps10
  go_wp2_with (first | (with_reducible refine at_make _ _ _ rfl ?_; refine wpList_make_barr Tryd.underlying34 mInfoL2 (by decide) (by decide) rfl _ _ rfl _ _ K K _ _ rfl rfl rfl rfl (Nat.le_refl _) (by omega) ?_))
  have h1 : BBlk ((w.alloc (.cells (arr .i64 8 (ss s)) 24)).alloc (.cells (barr (K * 256) fun _ => false) 65)) (w.heap.size + 1) (K * 256) (fun _ => false) 65 := BBlk.new _ _ _ _ (by simp)
  have f2 := f2.alloc (.cells (barr (K * 256) fun _ => false) 65)
  have hB0 : Below w.heap.size w ((w.alloc (.cells (arr .i64 8 (ss s)) 24)).alloc (.cells (barr (K * 256) fun _ => false) 65)) := ((Below.refl _ _).alloc (Nat.le_refl _) _).alloc (by simp) _
  have hng : w.heap.size ≠ w.heap.size + 1 := by omega
  clear hck
  have hx : Ex (w.heap.size + 1) w ((w.alloc (.cells (arr .i64 8 (ss s)) 24)).alloc (.cells (barr (K * 256) fun _ => false) 65)) := Ex.of_below hB0 _
  have hne : x.block ≠ w.heap.size + 1 := by omega
  clear hB0
  go_loopw [7, 8] (fun y t wr => ∃ r : Nat, r ≤ K ∧ t = .int .i64 (r : Int) ∧ y = .int .i64 (st b O r : Int) ∧ (∀ q, q < r → okR b O q) ∧ BBlk wr (w.heap.size + 1) (K * 256) (fun p => decide (drow b O r p ≠ 0)) 65 ∧ Blk wr w.heap.size .i64 8 (ss s) 24 ∧ Ex (w.heap.size + 1) w wr) (fun _ t _ => K - (intOf t).toNat)
  case atStart => exact ⟨0, by omega, rfl, rfl, fun q hq => by omega, h1.congr (fun p _ => by simp [drow]), f2, hx⟩
  case round =>
    clear h1 hx f2
    obtain ⟨r, hr, rfl, rfl, hok, h1, f2, hx⟩ := hrel
    have hst := st_le hok
    have HOK := Lib.hid hok; clear hok
    have hck := f2.cellv 0 (K : Int) (by omega) hkp
    have hco := f2.cellv 6 (O : Int) (by omega) hop
    by_cases hlt : r < K
    · obtain ⟨hb0, hb1⟩ := HB.out (O + r) (by omega)
      have hcE : wr.cell? (x.add (O + r)) = some (.int .u8 (ee b O r : Int)) := by
        rw [hx.rd HR.out hne (O + r) (by omega), ee, Int.toNat_of_nonneg hb0]
      have hE : ee b O r < 256 := by unfold ee; omega
      clear hb0 hb1
      obtain ⟨E, hEE⟩ : ∃ E, E = ee b O r := ⟨_, rfl⟩
      obtain ⟨S, hSS⟩ : ∃ S, S = st b O r := ⟨_, rfl⟩
      rw [← hEE] at hcE hE
      rw [← hSS] at hst ⊢
      have HEE := Lib.hid hEE; clear hEE
      have HSS := Lib.hid hSS; clear hSS
      have hend : ∀ w', Ex (w.heap.size + 1) w w' → Below w.heap.size w w' := fun w' h => h.below (Nat.le_refl _) (by omega)
      by_cases hA : E < S
      · have hd : decide ((E : Int) < (S : Int)) = true := by simp; omega
        go_wp2_with (first | (with_reducible refine at_load 5 _ rfl ?_; refine wpList_load_int Tryd.isAgg5 rfl _ rfl _ _ rfl _ hcE ?_))
        go_ret2
        refine ⟨.inr ⟨fun h => ?_, rfl⟩, hend _ hx⟩
        have := (h.1 r hlt).1
        rw [← HEE.out, ← HSS.out] at this
        omega
      · have hd : decide ((E : Int) < (S : Int)) = false := by simp; omega
        by_cases hB : O < E
        · have hd2 : decide ((O : Int) < (E : Int)) = true := by simp; omega
          go_wp2_with (first | (with_reducible refine at_load 5 _ rfl ?_; refine wpList_load_int Tryd.isAgg5 rfl _ rfl _ _ rfl _ hcE ?_))
          go_ret2
          refine ⟨.inr ⟨fun h => ?_, rfl⟩, hend _ hx⟩
          have := (h.1 r hlt).2.1
          rw [← HEE.out] at this
          omega
        · have hd2 : decide ((O : Int) < (E : Int)) = false := by simp; omega
          go_wp2_with (first | (with_reducible refine at_load 5 _ rfl ?_; refine wpList_load_int Tryd.isAgg5 rfl _ rfl _ _ rfl _ hcE ?_))
          clear hck hco
          go_loopw [7] (fun y ws => ∃ A : Nat, S ≤ A ∧ A ≤ E ∧ y = .int .i64 (A : Int) ∧ (∀ i, S < i → i < A → b (i - 1) < b i) ∧ BBlk ws (w.heap.size + 1) (K * 256) (fun p => decide (din b r (drow b O r) S (A - S) p ≠ 0)) 65 ∧ Blk ws w.heap.size .i64 8 (ss s) 24 ∧ Ex (w.heap.size + 1) w ws) (fun y _ => E - (intOf y).toNat)
          case atStart => exact ⟨S, Nat.le_refl _, by omega, rfl, fun i _ _ => by omega, h1.congr (fun p _ => by rw [Nat.sub_self, din]), f2, hx⟩
          case round =>
            clear h1 hx hcE f2
            obtain ⟨A, hSA, hAE, rfl, hord, h1, f2, hx⟩ := hrel
            have HORD := Lib.hid hord; clear hord
            by_cases hal : A < E
            · have hcA : wr.cell? (x.add A) = some (.int .u8 (b A)) := hx.rd HR.out hne A (by omega)
              obtain ⟨ba0, ba1⟩ := HB.out A (by omega)
              obtain ⟨V, hV⟩ : ∃ V : Nat, (V : Int) = b A := ⟨(b A).toNat, by omega⟩
              rw [← hV] at hcA ba0 ba1
              have HV := Lib.hid hV; clear hV
              have hVE : (b A).toNat = V := by rw [← HV.out]; rfl
              have HVE := Lib.hid hVE; clear hVE
              by_cases hgn : S < A
              · have hgd : decide ((S : Int) < (A : Int)) = true := by simp; omega
                have hcP : wr.cell? (x.add (A - 1)) = some (.int .u8 (b (A - 1))) := hx.rd HR.out hne (A - 1) (by omega)
                obtain ⟨bp0, bp1⟩ := HB.out (A - 1) (by omega)
                obtain ⟨U, hU⟩ : ∃ U : Nat, (U : Int) = b (A - 1) := ⟨(b (A - 1)).toNat, by omega⟩
                rw [← hU] at hcP bp0 bp1
                have HU := Lib.hid hU; clear hU
                by_cases hVU : V ≤ U
                · go_wp2_with fail
                  refine wp_region_quiet_lit (by kernel_rfl) (by kernel_rfl) ?_
                  repeat (go_big_quiet_step (fail))
                  refine wpQuiet_nil ?_
                  intro _ hw'
                  obtain ⟨nq, hw''⟩ := hw'
                  subst hw''
                  go_wp2_with fail
                  go_ret2
                  refine ⟨.inr ⟨fun h => ?_, rfl⟩, hend _ (hx.bel ⟨rfl, rfl, rfl, Nat.le_refl _, fun _ _ => rfl⟩)⟩
                  have := (h.1 r hlt).2.2 A (by rw [← HSS.out]; exact hgn) (by rw [← HEE.out]; exact hal)
                  rw [← HV.out, ← HU.out] at this
                  omega
                · have hord : ∀ i, S < i → i < A + 1 → b (i - 1) < b i := fun i h1 h2 => by
                    by_cases e : i = A
                    · rw [e, ← HV.out, ← HU.out]; omega
                    · exact HORD.out i h1 (by omega)
                  have HO2 := Lib.hid hord; clear hord
                  go_wp2_with fail
                  refine wp_region_quiet_lit (by kernel_rfl) (by kernel_rfl) ?_
                  repeat (go_big_quiet_step (fail))
                  refine wpQuiet_nil ?_
                  intro _ hw'
                  obtain ⟨nq, hw''⟩ := hw'
                  subst hw''
                  go_wp2_with fail
                  refine wp_region_drew_tail 8 (by kernel_rfl) (by kernel_rfl) ?_
                  simp only [List.take_succ_cons, List.take_zero, List.drop_succ_cons, List.drop_zero]
                  repeat (go_big_quiet_step (fail))
                  refine wpQuiet_nil ?_
                  intro _ hw'
                  obtain ⟨nq2, hw''⟩ := hw'
                  subst hw''
                  have h1 := (h1.drewN nq).drewN nq2
                  have f2 := (f2.drewN nq).drewN nq2
                  have hx : Ex (w.heap.size + 1) w ((wr.drewN nq).drewN nq2) := hx.bel ⟨rfl, rfl, rfl, Nat.le_refl _, fun _ _ => rfl⟩
                  go_wp2_with (first | (with_reducible refine at_store 4 _ _ rfl ?_; refine wpList_store_bool Tryd.sizeOf4 rfl _ _ rfl _ _ rfl _ rfl h1 (by omega) ?_; intro wn hn he; replace hx := hx.trans he; replace f2 := he.blk f2 hng; clear h1; have h1 := hn; clear hn he))
                  go_roundw
                  case rel => exact ⟨A + 1, by omega, by omega, by go_num, HO2.out, h1.congr (fun p _ => by
                    rw [show A + 1 - S = (A - S) + 1 from by omega, din, upd, show S + (A - S) = A from by omega, HVE.out]
                    by_cases e : p = r * 256 + V
                    · simp [e]
                    · simp [e]), f2, hx⟩
                  case measure => simp [intOf]; omega
              · have hgd : decide ((S : Int) < (A : Int)) = false := by simp; omega
                have hord : ∀ i, S < i → i < A + 1 → b (i - 1) < b i := fun i h1 h2 => by omega
                have HO2 := Lib.hid hord; clear hord
                go_wp2_with fail
                refine wp_region_quiet_lit (by kernel_rfl) (by kernel_rfl) ?_
                repeat (go_big_quiet_step (fail))
                refine wpQuiet_nil ?_
                intro _ hw'
                obtain ⟨nq, hw''⟩ := hw'
                subst hw''
                go_wp2_with fail
                refine wp_region_drew_tail 8 (by kernel_rfl) (by kernel_rfl) ?_
                simp only [List.take_succ_cons, List.take_zero, List.drop_succ_cons, List.drop_zero]
                repeat (go_big_quiet_step (fail))
                refine wpQuiet_nil ?_
                intro _ hw'
                obtain ⟨nq2, hw''⟩ := hw'
                subst hw''
                have h1 := (h1.drewN nq).drewN nq2
                have f2 := (f2.drewN nq).drewN nq2
                have hx : Ex (w.heap.size + 1) w ((wr.drewN nq).drewN nq2) := hx.bel ⟨rfl, rfl, rfl, Nat.le_refl _, fun _ _ => rfl⟩
                go_wp2_with (first | (with_reducible refine at_store 4 _ _ rfl ?_; refine wpList_store_bool Tryd.sizeOf4 rfl _ _ rfl _ _ rfl _ rfl h1 (by omega) ?_; intro wn hn he; replace hx := hx.trans he; replace f2 := he.blk f2 hng; clear h1; have h1 := hn; clear hn he))
                go_roundw
                case rel => exact ⟨A + 1, by omega, by omega, by go_num, HO2.out, h1.congr (fun p _ => by
                  rw [show A + 1 - S = (A - S) + 1 from by omega, din, upd, show S + (A - S) = A from by omega, HVE.out]
                  by_cases e : p = r * 256 + V
                  · simp [e]
                  · simp [e]), f2, hx⟩
                case measure => simp [intOf]; omega
            · obtain rfl : A = E := by omega
              go_wp2_with fail
              go_roundw
              case rel =>
                have hn : okR b O r := ⟨by rw [← HEE.out, ← HSS.out]; exact hSA, by rw [← HEE.out]; omega, by rw [← HEE.out, ← HSS.out]; exact HORD.out⟩
                exact ⟨r + 1, by omega, by go_num, by rw [st, ← HEE.out], fun q hq => by
                  by_cases e : q = r
                  · rw [e]; exact hn
                  · exact HOK.out q (by omega), by rw [drow, ← HEE.out, ← HSS.out]; exact h1, f2, hx⟩
              case measure => simp [intOf]; omega
    · obtain rfl : r = K := by omega
      obtain ⟨S, hSS⟩ : ∃ S, S = st b O r := ⟨_, rfl⟩
      rw [← hSS] at hst ⊢
      have HSS := Lib.hid hSS; clear hSS
      have hend : ∀ w', Ex (w.heap.size + 1) w w' → Below w.heap.size w w' := fun w' h => h.below (Nat.le_refl _) (by omega)
      go_wp2_with fail
      clear hck hco
      go_loopw [7] (fun y ws => ∃ J : Nat, S ≤ J ∧ J ≤ O ∧ y = .int .i64 (J : Int) ∧ (∀ i, S ≤ i → i < J → b i = 0) ∧ BBlk ws (w.heap.size + 1) (r * 256) (fun p => decide (drow b O r p ≠ 0)) 65 ∧ Blk ws w.heap.size .i64 8 (ss s) 24 ∧ Ex (w.heap.size + 1) w ws) (fun y _ => O - (intOf y).toNat)
      case atStart => exact ⟨S, Nat.le_refl _, hst, rfl, fun i _ _ => by omega, h1, f2, hx⟩
      case round =>
        clear h1 hx f2
        obtain ⟨J, hSJ, hJO, rfl, hz, h1, f2, hx⟩ := hrel
        have HZ := Lib.hid hz; clear hz
        have hco := f2.cellv 6 (O : Int) (by omega) hop
        by_cases hjl : J < O
        · have hcJ : wr.cell? (x.add J) = some (.int .u8 (b J)) := hx.rd HR.out hne J (by omega)
          obtain ⟨bj0, bj1⟩ := HB.out J (by omega)
          obtain ⟨V, hV⟩ : ∃ V : Nat, (V : Int) = b J := ⟨(b J).toNat, by omega⟩
          rw [← hV] at hcJ bj0 bj1
          have HV := Lib.hid hV; clear hV
          by_cases hv : V = 0
          · subst hv
            go_wp2_with (first | (with_reducible refine at_load 5 _ rfl ?_; refine wpList_load_int Tryd.isAgg5 rfl _ rfl _ _ rfl _ hcJ ?_))
            go_roundw
            case rel => exact ⟨J + 1, by omega, by omega, by go_num, fun i h1 h2 => by
              by_cases e : i = J
              · rw [e, ← HV.out]; rfl
              · exact HZ.out i h1 (by omega), h1, f2, hx⟩
            case measure => simp [intOf]; omega
          · have hvn : ((V : Int) != 0) = true := by simp; omega
            go_wp2_with (first | (with_reducible refine at_load 5 _ rfl ?_; refine wpList_load_int Tryd.isAgg5 rfl _ rfl _ _ rfl _ hcJ ?_))
            go_ret2
            refine ⟨.inr ⟨fun h => ?_, rfl⟩, hend _ hx⟩
            have := h.2 J (by rw [← HSS.out]; exact hSJ) hjl
            rw [← HV.out] at this
            omega
        · obtain rfl : J = O := by omega
          go_wp2_with fail
          go_ret2
          exact ⟨.inl ⟨⟨HOK.out, fun i h1 h2 => HZ.out i (by rw [HSS.out]; exact h1) h2⟩, _, rfl, by omega, h1⟩, hend _ hx⟩

end Go.Proofs.YtanfpnidlgejhaaDoor
