/-
  A public key read: the laws.
-/
import Derived.Test.YteigpbeamdhjpaaDoorPk4
import Derived.Test.YteigpbeamdhjpaaDoorEq
namespace Go.Proofs.YteigpbeamdhjpaaDoor
open Go.RowKit

theorem quiet_neq_arr {P : Program} {C : World → Prop} {o : Oper} {a : Act} {K : Act → Prop} {t e : TypeId} {n : Nat} {k : IntKind} {z y : Nat → Int} (ht : P.underlying t = some (.array n e)) (he : P.underlying e = some (.int k)) (hs : ∀ w, (sizeOf e).run P w = .ok 1 w) (ha : ∀ w, (isAgg e).run P w = .ok false w)
    (hg : P.eqGuardType P.depth t = false) (x x' : Operand) (u : TypeId) (ho : o.op = .binOp .neq t x x' u) (hx : a.eval x = .agg (arr k n z)) (hy : a.eval x' = .agg (arr k n y)) (h : ∀ i, i < n → z i = y i) (hk : K (a.put o.dst (.bool false))) : o.quiet P a C K :=
  ⟨.bool false, fun w hw => by
    have h1 : (binOp .neq t (.agg (arr k n z)) (.agg (arr k n y))).run P w = .ok (.bool false) w := by
      rw [← arr_congr h]
      have h2 := run_equalIn_arr 9998 ht he hs ha z w
      simp only [binOp]
      simp [Op.equal, Op.maxDepth, h2]
    unfold Oper.quietAt execOp
    simp only [ho, hx, hy, Sem.run_bind, run_eqGuard_agg (hm := hg), h1, Result.andThen_ok, Sem.run_pure]
    exact ⟨rfl, rfl⟩, hk⟩
theorem Rd.sub {k : IntKind} {w : World} {x : Addr} {n o m : Nat} {b : Nat → Int} (h : Rd k w x n b) (hm : o + m ≤ n) : Rd k w (x.add o) m (fun i => b (o + i)) := fun j hj => by
  rw [Deep.add_add]; exact h (o + j) (by omega)
theorem isRow_le {k : IntKind} {w w' : World} {a : Option Addr} {len cap : Nat} {zs : List Int} (h : IsRow k w a len cap zs) (hb : Below w.heap.size w w') : IsRow k w' a len cap zs := by
  rcases h with h | ⟨x, h1, h2, h3, h4, h5, h6⟩
  · exact .inl h
  · exact .inr ⟨x, h1, h2, h3, h4, fun i hi => by rw [hb.cell (p := x.add i) (block_lt_of_cell (h5 i hi)), h5 i hi], h6⟩
theorem pkt_bd (b : Nat → Int) (r i : Nat) : 0 ≤ pkt b r i ∧ pkt b r i < 1024 := by
  have h := ubits_bd (fun i => b (32 + 320 * r + i)) 320 10 i
  rw [show (2 : Int) ^ 10 = 1024 from rfl] at h
  exact h

set_option maxRecDepth 100000 in
set_option maxHeartbeats 1000000 in
theorem publicSize (s : Nat) (w : World) (hs : s < 3) : Calls Tryd.prog 17 #[.agg (arr .i64 8 (ss s))] w fun e w' => e = .returned (.int .i64 (32 + 320 * (kk s : Int))) ∧ Below w.heap.size w w' := by
  obtain ⟨hk0, hk1⟩ := kk_bd s hs
  have hc := Blk.cellv (Blk.new (g := w.heap.size) w .i64 8 (ss s) 25 rfl) 0 (kk s : Int) (by omega) (kk_ss s hs)
  generalize kk s = K at *
  go_enter Tryd.func17, Tryd.ntmps17
  go_wp2_with fail
  go_ret
  exact ⟨ret_int (by omega), (Below.refl _ _).alloc (Nat.le_refl _) _⟩

set_option maxRecDepth 100000 in
set_option maxHeartbeats 1000000 in
theorem walkFnPkBack (n : Int) (ad : Option Addr) (len cap : Nat) (zs : List Int) (w : World) (hp : Par w) (_he : GErr w 3) (n0 : 0 ≤ n) (n1 : n < 256) (h : IsRow .u8 w ad len cap zs) :
    Calls Tryd.prog 5 #[.int .u8 n, .slice ad len cap] w fun e w' => e = .returned (.bool true) ∧ Below w.heap.size w w' := by
  have hlm : len ≤ maxLen := by
    rcases h with ⟨_, h, _⟩ | ⟨x, ha, hl, hm, _⟩
    · rw [h]; exact Nat.zero_le _
    · omega
  simp only [maxLen] at hlm
  obtain ⟨s, hs⟩ : ∃ s : Nat, (s : Int) = n % 3 := ⟨(n % 3).toNat, by omega⟩
  have hs3 : s < 3 := by omega
  obtain ⟨hk0, hk1⟩ := kk_bd s hs3
  have hks := kk_ss s hs3
  by_cases hg1 : 2147483647 < len
  · go_enter Tryd.func5, Tryd.ntmps5
    go_wp2_with fail
    go_ret
    exact ⟨rfl, Below.refl _ _⟩
  · go_enter Tryd.func5, Tryd.ntmps5
    go_wp2_with fail
    refine (lwSet _ s _ n0 n1 hs).mono ?_
    rintro e w1 ⟨rfl, hb1⟩
    clear hs
    have fs := (Blk.zeros8 w1 25 rfl).row .i64 (ss s)
    have hB2 := below_setRow (hb1.alloc hb1.size (.cells #[.int .i64 0, .int .i64 0, .int .i64 0, .int .i64 0, .int .i64 0, .int .i64 0, .int .i64 0, .int .i64 0] 25)) (g := w1.heap.size) hb1.size (arr .i64 8 (ss s))
    by_cases hl : len = 32 + 320 * kk s
    · subst hl
      obtain ⟨x, rfl, hr, hb⟩ := rd_of_row h (by omega)
      obtain ⟨b, hbv⟩ : ∃ b : Nat → Int, b = fun j => zs.getD j 0 := ⟨_, rfl⟩
      rw [← hbv] at hr
      replace hb : ∀ i, i < 32 + 320 * kk s → 0 ≤ b i ∧ b i < 256 := fun i hi => by rw [hbv]; exact hb i hi
      clear hbv h
      have HB := Lib.hid hb; clear hb
      have HR := Lib.hid hr; clear hr
      go_wp2_with (first | (with_reducible refine at_store 25 _ _ rfl ?_; refine wpList_store_arr iSet rfl _ _ rfl _ rfl rfl (Blk.zeros8 _ _ rfl) ?_) | (with_reducible refine at_load 25 _ rfl ?_; refine wpList_load_s Tryd.underlying25 rfl iSet rfl _ rfl _ rfl (fs) ?_))
      refine (publicSize s _ hs3).mono ?_
      rintro e w3 ⟨rfl, hb3⟩
      have hB3 := belowChain hB2 hb3 hB2.size
      have hne : ((((32 + 320 * kk s : Nat)) : Int) != 32 + 320 * ((kk s : Nat) : Int)) = false := by simp
      go_wp2_with fail
      refine (implPkDecode s cap x b _ hs3 (hp.below hB3) (HR.out.below hB3) HB.out).mono ?_
      rintro e w4 ⟨⟨g, gt, c, rfl, hc32, hg, hgt, hrd, hbt⟩, hb4⟩
      have hB4 := belowChain hB3 hb4 hB3.size
      clear hne
      go_wp2_with fail
      refine (implPkEncode s c ⟨g, 0, none⟩ (some ⟨gt, 0, none⟩) (kk s) b (pkt b) _ hs3 (hp.below hB4) (fun j hj => hrd j (by omega)) (.inr ⟨_, rfl, Nat.le_refl _, by simp only [maxLen]; omega, fun r hr j hj => by rw [Addr.add_mid, Nat.zero_add, hbt.cell (by omega), show (r * 256 + j) / 256 = r from by omega, show (r * 256 + j) % 256 = j from by omega], fun r hr j hj => by have := pkt_bd b r j; simp [Lit.wf, IntKind.min, IntKind.max, IntKind.signed, IntKind.bits]; omega⟩) (fun r hr j hj => pkt_bd b r j)).mono ?_
      rintro e w5 ⟨g5, c5, rfl, hg5, hr5, hb5⟩
      have hB5 := belowChain hB4 hb5 hB4.size
      go_wp2_with fail
      refine (lwAlike ⟨g5, 0, none⟩ x (32 + 320 * kk s) c5 cap _ _ _ hr5 (HR.out.below hB5) (fun i hi => pkb_back b (kk s) HB.out i hi)).mono ?_
      rintro e w' ⟨rfl, rfl⟩
      go_wp2_with fail
      go_ret
      exact ⟨rfl, hB5⟩
    · go_wp2_with (first | (with_reducible refine at_store 25 _ _ rfl ?_; refine wpList_store_arr iSet rfl _ _ rfl _ rfl rfl (Blk.zeros8 _ _ rfl) ?_) | (with_reducible refine at_load 25 _ rfl ?_; refine wpList_load_s Tryd.underlying25 rfl iSet rfl _ rfl _ rfl (fs) ?_))
      refine (publicSize s _ hs3).mono ?_
      rintro e w3 ⟨rfl, hb3⟩
      have hne : ((len : Int) != 32 + 320 * ((kk s : Nat) : Int)) = true := by simp; omega
      go_wp2_with fail
      go_ret
      exact ⟨rfl, belowChain hB2 hb3 hB2.size⟩

end Go.Proofs.YteigpbeamdhjpaaDoor
