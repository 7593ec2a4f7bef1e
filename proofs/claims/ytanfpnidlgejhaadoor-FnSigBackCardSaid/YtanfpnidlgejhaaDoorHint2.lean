/-
  Hints as bytes: the reference.
-/
import Derived.Test.YtanfpnidlgejhaaDoorHint1
namespace Go.Proofs.YtanfpnidlgejhaaDoor
open Go.RowKit

section
variable {P : Program}
theorem barr_one (n : Nat) (z : Nat → Bool) : (barr n z).all (·.oneCell') = true := by
  rw [Array.all_eq_true]
  intro i hi
  simp [barr, Value.oneCell']
theorem run_loadVar_atb (w : World) (p : Addr) {n : Nat} {z : Nat → Bool} {ty e : TypeId} (hu : P.underlying ty = some (.array n e)) (hi : (P.info? ty).map (·.size) = some n) (hc : ∀ j, j < n → w.cell? (p.add j) = some (.bool (z j))) :
    (loadVar ty p).run P w = .ok (.agg (barr n z)) w := by
  have hl : (loadCells p n).run P w = .ok (barr n z) w := by
    have := run_loadCells_list (P := P) w p (barr n z).toList (fun j v hj => by
      have hjn : j < n := by
        have := (List.getElem?_eq_some_iff.1 hj).1
        simpa [barr_size] using this
      rw [hc j hjn]
      rw [Array.getElem?_toList, barr_get _ _ _ hjn] at hj
      exact hj)
    simpa [barr_size] using this
  cases hq : P.info? ty with
  | none => simp [hq] at hi
  | some i =>
    have hs : i.size = n := by simpa [hq] using hi
    have hagg : (isAgg ty).run P w = .ok true w := by
      unfold isAgg
      rw [Sem.run_bind, run_underlying hu w]
      simp
    simp [loadVar, Sem.run_bind, hagg, sizeOf, typeInfo, hq, hs, hl]
theorem wp_load_atb {o : Oper} {a : Act} {w : World} {K : Act → World → Prop} {Q : Exit → Act → World → Prop} {n : Nat} {z : Nat → Bool} {ty e : TypeId} (hu : P.underlying ty = some (.array n e)) (hi : (P.info? ty).map (·.size) = some n) (x : Operand) (ho : o.op = .load ty x)
    (p : Addr) (hx : a.eval x = .pointer (some p)) (hc : ∀ j, j < n → w.cell? (p.add j) = some (.bool (z j))) (h : K (a.put o.dst (.agg (barr n z))) w) : o.wp P a w K Q := by
  unfold Oper.wp execOp
  simp only [ho, hx, Instr.loadAt, Instr.sureAddr, Sem.run_bind, Sem.run_pure, Result.andThen_ok, run_loadVar_atb w p hu hi hc]
  exact h
theorem wpList_load_atb {ops : Array Oper} {rest : List Oper} {o : Oper} {a : Act} {w : World} {Q : Exit → Act → World → Prop} {n : Nat} {z : Nat → Bool} {ty e : TypeId} (hu : P.underlying ty = some (.array n e)) (hi : (P.info? ty).map (·.size) = some n) (hgd : o.guard = none) (x : Operand) (ho : o.op = .load ty x)
    (p : Addr) (hx : a.eval x = .pointer (some p)) (hc : ∀ j, j < n → w.cell? (p.add j) = some (.bool (z j))) (h : wpList P ops Q rest (a.put o.dst (.agg (barr n z))) w) : wpList P ops Q (o :: rest) a w :=
  wpList_plain hgd fun _ hK => wp_load_atb hu hi x ho p hx hc (hK _ _ h)
theorem wpList_store_barr {ops : Array Oper} {rest : List Oper} {o : Oper} {a : Act} {w : World} {Q : Exit → Act → World → Prop} {n : Nat} {z y : Nat → Bool} {ty t : TypeId} (hi : (P.info? ty).map (·.size) = some n) (hgd : o.guard = none) (x v : Operand) (ho : o.op = .store ty x v)
    (g : Nat) (hx : a.eval x = .pointer (some ⟨g, 0, none⟩)) (hy : a.eval v = .agg (barr n z)) (hg : BBlk w g n y t)
    (h : wpList P ops Q rest (a.put o.dst undef) (w.setRow g (barr n z))) : wpList P ops Q (o :: rest) a w :=
  wpList_store_row hgd ty x v ho g _ hx hy t _ hg (by rw [barr_size]; exact hi) (by rw [barr_size, barr_size]) (barr_one _ _) h
theorem zero_barr {t : TypeId} {n : Nat} (h : (P.info? t).map (fun i => (i.zero, i.size)) = some (some (.agg (Array.replicate n (.bool false))), n)) (w : World) :
    (zeroValue t).run P w = .ok (.agg (barr n fun _ => false)) w := by
  rw [← barr_rep]; exact (zero_of_info h).1 w
end
theorem BBlk.row {w : World} {g n : Nat} {y : Nat → Bool} {t : TypeId} (h : BBlk w g n y t) (z : Nat → Bool) : BBlk (w.setRow g (barr n z)) g n z t := setRow_heap w g _ _ _ _ h
theorem MatB.row {w : World} {x : Addr} {n : Nat} {Z : Nat → Nat → Bool} (h : MatB w x n Z) (r : Nat) (hr : r < n) : ∀ j, j < 256 → w.cell? ((x.add (r * 256)).add j) = some (.bool (Z r j)) := fun j hj => by
  rw [Deep.add_add]; exact h r hr j hj
theorem MatB.rowAt {w : World} {g n : Nat} {Z : Nat → Nat → Bool} (h : MatB w ⟨g, 0, none⟩ n Z) (r : Nat) (hr : r < n) : ∀ j, j < 256 → w.cell? ((⟨g, r * 256, none⟩ : Addr).add j) = some (.bool (Z r j)) := fun j hj => by
  have := h r hr j hj
  rw [Addr.add_mid] at this ⊢
  rw [← this]
  congr 2
  omega
theorem iL : (Tryd.prog.info? 65).map (·.size) = some 256 := by kernel_rfl
@[go_sem ↓] theorem zL (w : World) : (zeroValue 65).run Tryd.prog w = .ok (.agg (barr 256 fun _ => false)) w := zero_barr (by kernel_rfl) w
theorem ixL (z : Nat → Bool) (j : Nat) (hj : j < 256) (w : World) : (Instr.index 65 (.agg (barr 256 z)) (.int .i64 (j : Int))).run Tryd.prog w = .ok (.bool (z j)) w := run_index_barr Tryd.underlying65 Tryd.isAgg4 Tryd.sizeOf4 z j hj w

set_option maxRecDepth 100000 in
set_option maxHeartbeats 1000000 in
theorem packHints (s gb c : Nat) (H : Nat → Nat → Bool) (w : World) (hs : s < 3) (hm : MatB w ⟨gb, 0, none⟩ (kk s) H) (hn : hc H (256 * kk s) ≤ om s) :
    Calls Tryd.prog 21 #[.agg (arr .i64 8 (ss s)), .slice (some ⟨gb, 0, none⟩) (kk s) c] w (HPost s H w) := by
  unfold HPost
  obtain ⟨hk0, hk1⟩ := kk_bd s hs
  obtain ⟨ho0, ho1⟩ := om_bd s hs
  have hkp := kk_ss s hs
  have hop := om_ss s hs
  have HM := Lib.hid hm; clear hm
  have HN := Lib.hid hn; clear hn
  obtain ⟨K, hK⟩ : ∃ K, K = kk s := ⟨_, rfl⟩
  obtain ⟨O, hO⟩ : ∃ O, O = om s := ⟨_, rfl⟩
  rw [← hK] at hk0 hk1 hkp HM HN ⊢
  rw [← hO] at ho0 ho1 hop HN ⊢
  clear hK hO
  have f2 := Blk.new (g := w.heap.size) w .i64 8 (ss s) 24 rfl
  have hck := f2.cellv 0 (K : Int) (by omega) hkp
  have hco := f2.cellv 6 (O : Int) (by omega) hop
  go_enter Tryd.func21, Tryd.ntmps21
  go_wp2_with (first | (with_reducible refine at_make _ _ _ rfl ?_; refine wpList_make_int Tryd.underlying22 bInfo rfl _ _ rfl _ _ (O + K) (O + K) _ _ rfl rfl (by go_num) (by go_num) (Nat.le_refl _) (by omega) ?_))
  have h1 : Blk ((w.alloc (.cells (arr .i64 8 (ss s)) 24)).alloc (.cells (arr .u8 (O + K) fun _ => 0) 5)) (w.heap.size + 1) .u8 (O + K) (fun _ => 0) 5 := Blk.new _ _ _ _ _ (by simp)
  have f2 := f2.alloc (.cells (arr .u8 (O + K) fun _ => 0) 5)
  have hbe : Below w.heap.size w ((w.alloc (.cells (arr .i64 8 (ss s)) 24)).alloc (.cells (arr .u8 (O + K) fun _ => 0) 5)) := ((Below.refl _ _).alloc (Nat.le_refl _) _).alloc (by simp) _
  clear hck hco
  go_loopw [6, 19] (fun x t wr => ∃ r : Nat, r ≤ K ∧ t = .int .i64 (r : Int) ∧ x = .int .i64 (hc H (256 * r) : Int) ∧ Blk wr (w.heap.size + 1) .u8 (O + K) (hrow H O r) 5 ∧ Blk wr w.heap.size .i64 8 (ss s) 24 ∧ Below w.heap.size w wr) (fun _ t _ => K - (intOf t).toNat)
  case atStart => exact ⟨0, by omega, rfl, rfl, h1, f2, hbe⟩
  case round =>
    clear h1 f2 hbe
    obtain ⟨r, hr, rfl, rfl, h1, f2, hbe⟩ := hrel
    have hsz := hbe.size
    by_cases hlt : r < K
    · have hrw := Lib.hid ((HM.out.below hbe).rowAt r hlt)
      have hcr : hc H (256 * r) ≤ O := Nat.le_trans (hc_le H (by omega)) HN.out
      go_wp2_with (first | (with_reducible refine at_loadx 65 22 rfl ?_; refine wpList_load_atb Tryd.underlying65 iL rfl _ rfl ⟨gb, r * 256, none⟩ rfl hrw.out ?_) | (with_reducible refine at_storex 65 8 _ rfl ?_; refine wpList_store_barr iL rfl _ _ rfl _ rfl rfl (BBlk.new wr 256 (fun _ => false) 65 rfl) ?_) | (with_reducible refine at_loadx 65 8 rfl ?_; refine wpList_load_barr Tryd.underlying65 iL rfl _ rfl _ rfl ((BBlk.new wr 256 (fun _ => false) 65 rfl).row (H r)) ?_))
      have hl1 := h1.lt
      have h1 := (h1.alloc (.cells (barr 256 fun _ => false) 65)).rowOther wr.heap.size (barr 256 (H r)) (by omega)
      have f2 := (f2.alloc (.cells (barr 256 fun _ => false) 65)).rowOther wr.heap.size (barr 256 (H r)) (by omega)
      have hbe := below_setRow (hbe.alloc hsz (.cells (barr 256 fun _ => false) 65)) hsz (barr 256 (H r))
      clear hl1
      go_loopw [6, 25] (fun x t ws => ∃ j : Nat, j ≤ 256 ∧ t = .int .i64 (j : Int) ∧ x = .int .i64 (hc H (256 * r + j) : Int) ∧ Blk ws (w.heap.size + 1) .u8 (O + K) (hin H (hrow H O r) r j) 5 ∧ Blk ws w.heap.size .i64 8 (ss s) 24 ∧ Below w.heap.size w ws) (fun _ t _ => 256 - (intOf t).toNat)
      case atStart => exact ⟨0, by omega, rfl, rfl, h1, f2, hbe⟩
      case round =>
        clear h1 f2 hbe hsz
        obtain ⟨j, hj, rfl, rfl, h1, f2, hbe⟩ := hrel
        have hsz := hbe.size
        by_cases hjl : j < 256
        · have hat := hc_at H r j hjl
          have hle : hc H (256 * r + (j + 1)) ≤ O := Nat.le_trans (hc_le H (by omega)) HN.out
          obtain ⟨C, hC⟩ : ∃ C, C = hc H (256 * r + j) := ⟨_, rfl⟩
          have HC := Lib.hid hC
          rw [← hC] at hat ⊢
          clear hC
          have hix := ixL (H r) j hjl
          cases hH : H r j with
          | true =>
            simp only [hH, if_true] at hix hat
            go_wp2_with (first | (with_reducible refine at_store 5 _ _ rfl ?_; refine wpList_store_int Tryd.sizeOf5 rfl _ _ rfl _ _ rfl _ rfl h1 (by omega) ?_; intro wn hn he; replace hbe := hbe.trans (he.below hsz (by omega)); replace f2 := he.blk f2 (by omega); clear h1; have h1 := hn; clear hn he))
            go_roundw
            case rel => exact ⟨j + 1, by omega, by go_num, by rw [hat]; simp, h1.congr (fun p _ => by rw [hin, hH, if_pos rfl, upd, ← HC.out]), f2, hbe⟩
            case measure => simp [intOf]; omega
          | false =>
            simp only [hH] at hix hat
            go_wp2_with fail
            go_roundw
            case rel => exact ⟨j + 1, by omega, by go_num, by rw [hat]; simp, by rw [hin, hH]; exact h1, f2, hbe⟩
            case measure => simp [intOf]; omega
        · obtain rfl : j = 256 := by omega
          have hle : hc H (256 * r + 256) ≤ O := Nat.le_trans (hc_le H (by omega)) HN.out
          have hco := f2.cellv 6 (O : Int) (by omega) hop
          go_wp2_with (first | (with_reducible refine at_store 5 _ _ rfl ?_; refine wpList_store_int Tryd.sizeOf5 rfl _ _ rfl _ _ rfl _ rfl h1 (by omega) ?_; intro wn hn he; replace hbe := hbe.trans (he.below hsz (by omega)); replace f2 := he.blk f2 (by omega); clear h1; have h1 := hn; clear hn he))
          go_roundw
          case rel => exact ⟨r + 1, by omega, by go_num, by rw [show 256 * (r + 1) = 256 * r + 256 from by omega], h1.congr (fun p _ => by rw [hrow, upd, show 256 * (r + 1) = 256 * r + 256 from by omega]), f2, hbe⟩
          case measure => simp [intOf]; omega
    · obtain rfl : r = K := by omega
      go_wp2_with fail
      go_ret
      exact ⟨w.heap.size + 1, rfl, by omega, h1, hbe⟩

end Go.Proofs.YtanfpnidlgejhaaDoor
