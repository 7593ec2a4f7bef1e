/-
  Hints read: the walk.
-/
import Derived.Test.YtanfpnidlgejhaaDoorHint4
namespace Go.Proofs.YtanfpnidlgejhaaDoor
open Go.RowKit

/-- Where row r ends. -/
def ee (b : Nat → Int) (O r : Nat) : Nat := (b (O + r)).toNat
/-- Where row r begins. -/
def st (b : Nat → Int) (O : Nat) : Nat → Nat
  | 0 => 0
  | r + 1 => ee b O r
def okR (b : Nat → Int) (O r : Nat) : Prop := st b O r ≤ ee b O r ∧ ee b O r ≤ O ∧ ∀ i, st b O r < i → i < ee b O r → b (i - 1) < b i
/-- The bytes are hints in order. -/
def okA (b : Nat → Int) (O K : Nat) : Prop := (∀ r, r < K → okR b O r) ∧ ∀ i, st b O K ≤ i → i < O → b i = 0
/-- The hints behind k bytes from a on of row r. -/
def din (b : Nat → Int) (r : Nat) (f : Nat → Int) (a : Nat) : Nat → Nat → Int
  | 0 => f
  | k + 1 => upd (din b r f a k) (r * 256 + (b (a + k)).toNat) 1
/-- The hints behind r rows. -/
def drow (b : Nat → Int) (O : Nat) : Nat → Nat → Int
  | 0 => fun _ => 0
  | r + 1 => din b r (drow b O r) (st b O r) (ee b O r - st b O r)
theorem quiet_load_p {P : Program} {C : World → Prop} {o : Oper} {a : Act} {K : Act → Prop} (ty : TypeId) (x : Operand) (ho : o.op = .load ty x) (p : Addr) (hx : a.eval x = .pointer (some p)) (k : IntKind) (v : Int) (ha : ∀ w, (isAgg ty).run P w = .ok false w)
    (hg : ∀ w, C w → w.cell? p = some (.int k v)) (hk : K (a.put o.dst (.int k v))) : o.quiet P a C K :=
  ⟨.int k v, fun w hw => by
    have h := hg w hw
    unfold Oper.quietAt execOp
    simp [ho, hx, Instr.loadAt, Instr.sureAddr, loadVar, ha, h]
    exact ⟨rfl, rfl⟩, hk⟩
theorem gerr_ne {w : World} {g gh n : Nat} {k : IntKind} {z : Nat → Int} {t : TypeId} (he : GErr w g) (ht : Blk w gh k n z t) (h0 : 0 < n) : g ≠ gh := by
  rintro rfl
  obtain ⟨u, v, h⟩ := he
  rw [ht.cell h0] at h
  simp at h
theorem GErr.ex {w w' : World} {g gh : Nat} (he : GErr w g) (hx : Ex gh w w') (hne : g ≠ gh) : GErr w' g := by
  obtain ⟨u, v, h⟩ := he
  exact ⟨u, v, by rw [World.cell?_of_block (hx.block g (block_lt_of_cell h) hne), h]⟩
theorem st_le {b : Nat → Int} {O r : Nat} (h : ∀ q, q < r → okR b O q) : st b O r ≤ O := by
  cases r with
  | zero => exact Nat.zero_le _
  | succ r => exact (h r (by omega)).2.1

/-- What reading hints leaves behind. -/
def DPost (gh K O : Nat) (b : Nat → Int) (w : World) (e : Ending) (w' : World) : Prop := ((okA b O K ∧ e = .returned .nilIface ∧ Blk w' gh .u8 (K * 256) (drow b O K) 66) ∨ (¬ okA b O K ∧ ∃ t u, e = .returned (.iface t u))) ∧ Ex gh w w'
set_option maxRecDepth 100000 in
set_option maxHeartbeats 1000000 in
theorem hintDecodeW (s gh c ct : Nat) (x : Addr) (b : Nat → Int) (w : World) (hs : s < 3) (he4 : GErr w 4) (he5 : GErr w 5) (he6 : GErr w 6) (hne : x.block ≠ gh) (hr : Rd .u8 w x (om s + kk s) b) (hb : ∀ i, i < om s + kk s → 0 ≤ b i ∧ b i < 256) (ht : Blk w gh .u8 (kk s * 256) (fun _ => 0) 66) :
    Calls Tryd.prog 48 #[.slice (some x) (om s + kk s) c, .slice (some ⟨gh, 0, none⟩) (kk s) ct, .agg (arr .i64 8 (ps s))] w (DPost gh (kk s) (om s) b w) := by
  unfold DPost
  have hn4 := gerr_ne he4 ht (by have := kk_bd s hs; omega)
  have hn5 := gerr_ne he5 ht (by have := kk_bd s hs; omega)
  have hn6 := gerr_ne he6 ht (by have := kk_bd s hs; omega)
  have HE4 := Lib.hid he4; clear he4
  have HE5 := Lib.hid he5; clear he5
  have HE6 := Lib.hid he6; clear he6
  obtain ⟨hk0, hk1⟩ := kk_bd s hs
  obtain ⟨ho0, ho1⟩ := om_bd s hs
  have hkp := kk_ps s hs
  have hop := om_ps s hs
  have HR := Lib.hid hr; clear hr
  have HB := Lib.hid hb; clear hb
  obtain ⟨K, hK⟩ : ∃ K, K = kk s := ⟨_, rfl⟩
  obtain ⟨O, hO⟩ : ∃ O, O = om s := ⟨_, rfl⟩
  rw [← hK] at hk0 hk1 hkp HR HB ht ⊢
  rw [← hO] at ho0 ho1 hop HR HB ⊢
  clear hK hO
  have f5 := Blk.new (g := w.heap.size) w .i64 8 (ps s) 76 rfl
  have hck := f5.cellv 0 (K : Int) (by omega) hkp
  have hco := f5.cellv 7 (O : Int) (by omega) hop
  go_enter Tryd.func48, Tryd.ntmps48
  go_wp2_with fail
  refine wp_region_quiet_lit (by kernel_rfl) (by kernel_rfl) ?_
  repeat (go_big_quiet_step (fail))
  refine wpQuiet_nil ?_
  intro _ hw'
  obtain ⟨nq, hw''⟩ := hw'
  subst hw''
  have hx : Ex gh w ((w.alloc (.cells (arr .i64 8 (ps s)) 76)).drewN nq) := (Ex.of_below ((Below.refl _ _).alloc (Nat.le_refl _) _) gh).bel ⟨rfl, rfl, rfl, Nat.le_refl _, fun _ _ => rfl⟩
  have h1 := (ht.alloc (.cells (arr .i64 8 (ps s)) 76)).drewN nq
  have hn : ((((O + K : Nat)) : Int) != (O : Int) + (K : Int)) = false := by simp
  clear hck hco f5
  go_wp2_with fail
  go_loopw [9, 26] (fun y t wr => ∃ r : Nat, r ≤ K ∧ t = .int .i64 (r : Int) ∧ y = .int .u8 (st b O r : Int) ∧ (∀ q, q < r → okR b O q) ∧ Blk wr gh .u8 (K * 256) (drow b O r) 66 ∧ Ex gh w wr) (fun _ t _ => K - (intOf t).toNat)
  case atStart => exact ⟨0, by omega, rfl, rfl, fun q hq => by omega, h1, hx⟩
  case round =>
    clear h1 hx hn
    obtain ⟨r, hr, rfl, rfl, hok, h1, hx⟩ := hrel
    have hst := st_le hok
    have HOK := Lib.hid hok; clear hok
    by_cases hlt : r < K
    · obtain ⟨hb0, hb1⟩ := HB.out (O + r) (by omega)
      have hcE : wr.cell? (x.add (O + r)) = some (.int .u8 (ee b O r : Int)) := by
        rw [hx.rd HR.out hne (O + r) (by omega), ee, Int.toNat_of_nonneg hb0]
      have hE : ee b O r < 256 := by unfold ee; omega
      clear hb0 hb1
      obtain ⟨E, hEE⟩ : ∃ E, E = ee b O r := ⟨_, rfl⟩
      obtain ⟨S, hSS⟩ : ∃ S, S = st b O r := ⟨_, rfl⟩
      rw [← hEE] at hcE hE
      rw [← hSS] at hst ⊢
      have HEE := Lib.hid hEE; clear hEE
      have HSS := Lib.hid hSS; clear hSS
      by_cases hA : E < S
      · have hd : decide ((E : Int) < (S : Int)) = true := by simp; omega
        obtain ⟨t4, u4, hc4⟩ := HE4.out.ex hx hn4
        go_wp2_with (first | (with_reducible refine at_load 5 _ rfl ?_; refine wpList_load_int Tryd.isAgg5 rfl _ rfl _ _ rfl _ hcE ?_))
        go_ret
        refine ⟨.inr ⟨fun h => ?_, _, _, rfl⟩, hx⟩
        have := (h.1 r hlt).1
        rw [← HEE.out, ← HSS.out] at this
        omega
      · have hd : decide ((E : Int) < (S : Int)) = false := by simp; omega
        by_cases hB : O < E
        · have hd2 : decide ((O : Int) < (E : Int)) = true := by simp; omega
          obtain ⟨t4, u4, hc4⟩ := HE4.out.ex hx hn4
          go_wp2_with (first | (with_reducible refine at_load 5 _ rfl ?_; refine wpList_load_int Tryd.isAgg5 rfl _ rfl _ _ rfl _ hcE ?_))
          go_ret
          refine ⟨.inr ⟨fun h => ?_, _, _, rfl⟩, hx⟩
          have := (h.1 r hlt).2.1
          rw [← HEE.out] at this
          omega
        · have hd2 : decide ((O : Int) < (E : Int)) = false := by simp; omega
          go_wp2_with (first | (with_reducible refine at_load 5 _ rfl ?_; refine wpList_load_int Tryd.isAgg5 rfl _ rfl _ _ rfl _ hcE ?_))
          go_loopw [9] (fun y ws => ∃ A : Nat, S ≤ A ∧ A ≤ E ∧ y = .int .u8 (A : Int) ∧ (∀ i, S < i → i < A → b (i - 1) < b i) ∧ Blk ws gh .u8 (K * 256) (din b r (drow b O r) S (A - S)) 66 ∧ Ex gh w ws) (fun y _ => E - (intOf y).toNat)
          case atStart => exact ⟨S, Nat.le_refl _, by omega, rfl, fun i _ _ => by omega, h1.congr (fun p _ => by rw [Nat.sub_self, din]), hx⟩
          case round =>
            clear h1 hx hcE
            obtain ⟨A, hSA, hAE, rfl, hord, h1, hx⟩ := hrel
            have HORD := Lib.hid hord; clear hord
            by_cases hal : A < E
            · have hcA : wr.cell? (x.add A) = some (.int .u8 (b A)) := hx.rd HR.out hne A (by omega)
              obtain ⟨ba0, ba1⟩ := HB.out A (by omega)
              obtain ⟨V, hV⟩ : ∃ V : Nat, (V : Int) = b A := ⟨(b A).toNat, by omega⟩
              rw [← hV] at hcA ba0 ba1
              have HV := Lib.hid hV; clear hV
              have hVE : (b A).toNat = V := by rw [← HV.out]; rfl
              have HVE := Lib.hid hVE; clear hVE
              by_cases hgn : S < A
              · have hgd : decide ((S : Int) < (A : Int)) = true := by simp; omega
                have hcP : wr.cell? (x.add (A - 1)) = some (.int .u8 (b (A - 1))) := hx.rd HR.out hne (A - 1) (by omega)
                obtain ⟨bp0, bp1⟩ := HB.out (A - 1) (by omega)
                obtain ⟨U, hU⟩ : ∃ U : Nat, (U : Int) = b (A - 1) := ⟨(b (A - 1)).toNat, by omega⟩
                rw [← hU] at hcP bp0 bp1
                have HU := Lib.hid hU; clear hU
                by_cases hVU : V ≤ U
                · obtain ⟨t5, u5, hc5⟩ := HE5.out.ex hx hn5
                  go_wp2_with fail
                  refine wp_region_quiet_lit (by kernel_rfl) (by kernel_rfl) ?_
                  repeat (go_big_quiet_step (fail))
                  refine wpQuiet_nil ?_
                  intro _ hw'
                  obtain ⟨nq, hw''⟩ := hw'
                  subst hw''
                  go_wp2_with fail
                  go_ret
                  refine ⟨.inr ⟨fun h => ?_, _, _, rfl⟩, hx.bel ⟨rfl, rfl, rfl, Nat.le_refl _, fun _ _ => rfl⟩⟩
                  have := (h.1 r hlt).2.2 A (by rw [← HSS.out]; exact hgn) (by rw [← HEE.out]; exact hal)
                  rw [← HV.out, ← HU.out] at this
                  omega
                · have hord : ∀ i, S < i → i < A + 1 → b (i - 1) < b i := fun i h1 h2 => by
                    by_cases e : i = A
                    · rw [e, ← HV.out, ← HU.out]; omega
                    · exact HORD.out i h1 (by omega)
                  have HO2 := Lib.hid hord; clear hord
                  go_wp2_with fail
                  refine wp_region_quiet_lit (by kernel_rfl) (by kernel_rfl) ?_
                  repeat (go_big_quiet_step (fail))
                  refine wpQuiet_nil ?_
                  intro _ hw'
                  obtain ⟨nq, hw''⟩ := hw'
                  subst hw''
                  go_wp2_with fail
                  refine wp_region_drew_tail 8 (by kernel_rfl) (by kernel_rfl) ?_
                  simp only [List.take_succ_cons, List.take_zero, List.drop_succ_cons, List.drop_zero]
                  repeat (go_big_quiet_step (fail))
                  refine wpQuiet_nil ?_
                  intro _ hw'
                  obtain ⟨nq2, hw''⟩ := hw'
                  subst hw''
                  have h1 := (h1.drewN nq).drewN nq2
                  have hx : Ex gh w ((wr.drewN nq).drewN nq2) := hx.bel ⟨rfl, rfl, rfl, Nat.le_refl _, fun _ _ => rfl⟩
                  go_wp2_with (first | (with_reducible refine at_store 5 _ _ rfl ?_; refine wpList_store_int Tryd.sizeOf5 rfl _ _ rfl _ _ rfl _ rfl h1 (by omega) ?_; intro wn hn he; replace hx := hx.trans he; clear h1; have h1 := hn; clear hn he))
                  go_roundw
                  case rel => exact ⟨A + 1, by omega, by omega, by go_num, HO2.out, h1.congr (fun p _ => by rw [show A + 1 - S = (A - S) + 1 from by omega, din, upd, show S + (A - S) = A from by omega, HVE.out]), hx⟩
                  case measure => simp [intOf]; omega
              · have hgd : decide ((S : Int) < (A : Int)) = false := by simp; omega
                have hord : ∀ i, S < i → i < A + 1 → b (i - 1) < b i := fun i h1 h2 => by omega
                have HO2 := Lib.hid hord; clear hord
                go_wp2_with fail
                refine wp_region_quiet_lit (by kernel_rfl) (by kernel_rfl) ?_
                repeat (go_big_quiet_step (fail))
                refine wpQuiet_nil ?_
                intro _ hw'
                obtain ⟨nq, hw''⟩ := hw'
                subst hw''
                go_wp2_with fail
                refine wp_region_drew_tail 8 (by kernel_rfl) (by kernel_rfl) ?_
                simp only [List.take_succ_cons, List.take_zero, List.drop_succ_cons, List.drop_zero]
                repeat (go_big_quiet_step (fail))
                refine wpQuiet_nil ?_
                intro _ hw'
                obtain ⟨nq2, hw''⟩ := hw'
                subst hw''
                have h1 := (h1.drewN nq).drewN nq2
                have hx : Ex gh w ((wr.drewN nq).drewN nq2) := hx.bel ⟨rfl, rfl, rfl, Nat.le_refl _, fun _ _ => rfl⟩
                go_wp2_with (first | (with_reducible refine at_store 5 _ _ rfl ?_; refine wpList_store_int Tryd.sizeOf5 rfl _ _ rfl _ _ rfl _ rfl h1 (by omega) ?_; intro wn hn he; replace hx := hx.trans he; clear h1; have h1 := hn; clear hn he))
                go_roundw
                case rel => exact ⟨A + 1, by omega, by omega, by go_num, HO2.out, h1.congr (fun p _ => by rw [show A + 1 - S = (A - S) + 1 from by omega, din, upd, show S + (A - S) = A from by omega, HVE.out]), hx⟩
                case measure => simp [intOf]; omega
            · obtain rfl : A = E := by omega
              go_wp2_with fail
              go_roundw
              case rel =>
                have hn : okR b O r := ⟨by rw [← HEE.out, ← HSS.out]; exact hSA, by rw [← HEE.out]; omega, by rw [← HEE.out, ← HSS.out]; exact HORD.out⟩
                exact ⟨r + 1, by omega, by go_num, by rw [st, ← HEE.out], fun q hq => by
                  by_cases e : q = r
                  · rw [e]; exact hn
                  · exact HOK.out q (by omega), by rw [drow, ← HEE.out, ← HSS.out]; exact h1, hx⟩
              case measure => simp [intOf]; omega
    · obtain rfl : r = K := by omega
      obtain ⟨S, hSS⟩ : ∃ S, S = st b O r := ⟨_, rfl⟩
      rw [← hSS] at hst ⊢
      have HSS := Lib.hid hSS; clear hSS
      go_wp2_with fail
      go_loopw [13] (fun y ws => ∃ J : Nat, S ≤ J ∧ J ≤ O ∧ y = .int .u8 (J : Int) ∧ (∀ i, S ≤ i → i < J → b i = 0) ∧ Blk ws gh .u8 (r * 256) (drow b O r) 66 ∧ Ex gh w ws) (fun y _ => O - (intOf y).toNat)
      case atStart => exact ⟨S, Nat.le_refl _, hst, rfl, fun i _ _ => by omega, h1, hx⟩
      case round =>
        clear h1 hx
        obtain ⟨J, hSJ, hJO, rfl, hz, h1, hx⟩ := hrel
        have HZ := Lib.hid hz; clear hz
        by_cases hjl : J < O
        · have hcJ : wr.cell? (x.add J) = some (.int .u8 (b J)) := hx.rd HR.out hne J (by omega)
          obtain ⟨bj0, bj1⟩ := HB.out J (by omega)
          obtain ⟨V, hV⟩ : ∃ V : Nat, (V : Int) = b J := ⟨(b J).toNat, by omega⟩
          rw [← hV] at hcJ bj0 bj1
          have HV := Lib.hid hV; clear hV
          by_cases hv : V = 0
          · subst hv
            go_wp2_with (first | (with_reducible refine at_load 5 _ rfl ?_; refine wpList_load_int Tryd.isAgg5 rfl _ rfl _ _ rfl _ hcJ ?_))
            go_roundw
            case rel => exact ⟨J + 1, by omega, by omega, by go_num, fun i h1 h2 => by
              by_cases e : i = J
              · rw [e, ← HV.out]; rfl
              · exact HZ.out i h1 (by omega), h1, hx⟩
            case measure => simp [intOf]; omega
          · have hvn : ((V : Int) != 0) = true := by simp; omega
            obtain ⟨t6, u6, hc6⟩ := HE6.out.ex hx hn6
            go_wp2_with (first | (with_reducible refine at_load 5 _ rfl ?_; refine wpList_load_int Tryd.isAgg5 rfl _ rfl _ _ rfl _ hcJ ?_))
            go_ret
            refine ⟨.inr ⟨fun h => ?_, _, _, rfl⟩, hx⟩
            have := h.2 J (by rw [← HSS.out]; exact hSJ) hjl
            rw [← HV.out] at this
            omega
        · obtain rfl : J = O := by omega
          go_wp2_with fail
          go_ret
          exact ⟨.inl ⟨⟨HOK.out, fun i h1 h2 => HZ.out i (by rw [HSS.out]; exact h1) h2⟩, rfl, h1⟩, hx⟩

end Go.Proofs.YtanfpnidlgejhaaDoor
