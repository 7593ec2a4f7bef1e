/-
  A mask that is packed is unpacked as it was.
-/
import Derived.Test.YtejolgicllogjaaDoorPackE
namespace Go.Proofs.YtejolgicllogjaaDoor
open Go.RowKit

theorem quiet_eql_arr {P : Program} {C : World → Prop} {o : Oper} {a : Act} {K : Act → Prop} {t e : TypeId} {n : Nat} {k : IntKind} {z y : Nat → Int} (ht : P.underlying t = some (.array n e)) (he : P.underlying e = some (.int k)) (hs : ∀ w, (sizeOf e).run P w = .ok 1 w) (ha : ∀ w, (isAgg e).run P w = .ok false w)
    (hg : P.eqGuardType P.depth t = false) (x x' : Operand) (u : TypeId) (ho : o.op = .binOp .eql t x x' u) (hx : a.eval x = .agg (arr k n z)) (hy : a.eval x' = .agg (arr k n y)) (h : ∀ i, i < n → z i = y i) (hk : K (a.put o.dst (.bool true))) : o.quiet P a C K :=
  ⟨.bool true, fun w hw => by
    unfold Oper.quietAt execOp
    simp only [ho, hx, hy, Sem.run_bind, run_eqGuard_agg (hm := hg), run_eql_arr ht he hs ha z y h w, Result.andThen_ok, Sem.run_pure]
    exact ⟨rfl, rfl⟩, hk⟩

set_option maxRecDepth 100000 in
set_option maxHeartbeats 1000000 in
theorem walkFnBitBack (n : Int) (r : Nat → Int) (w : World) (hp : Par w) (n0 : 0 ≤ n) (n1 : n < 256) (hx : ∀ i, i < 256 → 0 ≤ r i ∧ r i < 4294967296) :
    Calls Tryd.prog 5 #[.int .u8 n, .agg (arr .u32 256 r)] w fun e w' => e = .returned (.bool true) ∧ Below w.heap.size w w' := by
  obtain ⟨s, hs⟩ : ∃ s : Nat, (s : Int) = n % 3 := ⟨(n % 3).toNat, by omega⟩
  have hs3 : s < 3 := by omega
  have hgm : 2 * ss s 4 - 1 = (blN s : Int) := by
    have h3 : s = 0 ∨ s = 1 ∨ s = 2 := by omega
    rcases h3 with rfl | rfl | rfl <;> rfl
  have hgb : 1 ≤ ss s 4 ∧ ss s 4 ≤ 524288 := by
    have h3 : s = 0 ∨ s = 1 ∨ s = 2 := by omega
    rcases h3 with rfl | rfl | rfl <;> decide
  obtain ⟨hg0, hg1⟩ := hgb
  have hdp := dd_pow s hs3
  have hbl := blN_dd s
  have HX := Lib.hid hx; clear hx
  go_enter Tryd.func5, Tryd.ntmps5
  go_wp2_with fail
  refine (lwSet _ s _ n0 n1 hs).mono ?_
  rintro e w1 ⟨rfl, hb1⟩
  clear hs
  have f0 := Blk.below (Blk.new w .u32 256 r 30 rfl) hb1
  have hB1 := belowChain ((Below.refl w.heap.size w).alloc (Nat.le_refl _) (.cells (arr .u32 256 r) 30)) hb1 (by first | omega | (simp; done) | (simp; omega))
  have hs1 := f0.lt
  go_wp2_with (first | (with_reducible refine at_store 24 _ _ rfl ?_; refine wpList_store_arr iSet rfl _ _ rfl _ rfl rfl (Blk.zeros8 _ _ rfl) ?_) | (with_reducible refine at_load 30 _ rfl ?_; refine wpList_load_arr Tryd.underlying30 iU rfl _ rfl _ rfl ((f0.alloc _).rowOther _ _ (by first | omega | (simp; done) | (simp; omega))) ?_))
  have f0 := (f0.alloc (.cells #[.int .i64 0, .int .i64 0, .int .i64 0, .int .i64 0, .int .i64 0, .int .i64 0, .int .i64 0, .int .i64 0] 24)).rowOther w1.heap.size (arr .i64 8 (ss s)) (by first | omega | (simp; done) | (simp; omega))
  have fs := (Blk.zeros8 w1 24 rfl).row .i64 (ss s)
  have hB2 := below_setRow (hB1.alloc hB1.size (.cells #[.int .i64 0, .int .i64 0, .int .i64 0, .int .i64 0, .int .i64 0, .int .i64 0, .int .i64 0, .int .i64 0] 24)) (g := w1.heap.size) hB1.size (arr .i64 8 (ss s))
  refine (lwPlain r _ HX.out).mono ?_
  rintro e w2 ⟨rfl, hb2⟩
  have f0 := f0.below hb2
  have fs := fs.below hb2
  have hB3 := belowChain hB2 hb2 hB2.size
  have hs2 := f0.lt
  have hs3' := fs.lt
  clear hb1 hb2
  have ga := (Blk.new w2 .i64 256 (fun _ => 0) 33 rfl).row .i64 (fun i => mred (r i))
  have f0' := (f0.alloc (.cells (arr .i64 256 (fun _ => 0)) 33)).rowOther w2.heap.size (arr .i64 256 (fun i => mred (r i))) (by first | omega | (simp; done) | (simp; omega))
  have fs' := (fs.alloc (.cells (arr .i64 256 (fun _ => 0)) 33)).rowOther w2.heap.size (arr .i64 256 (fun i => mred (r i))) (by first | omega | (simp; done) | (simp; omega))
  have hB4 := below_setRow (hB3.alloc hB3.size (.cells (arr .i64 256 (fun _ => 0)) 33)) (g := w2.heap.size) hB3.size (arr .i64 256 (fun i => mred (r i)))
  have hc4 := fs'.cellv 4 (ss s 4) (by omega) rfl
  cases hrx : redB r with
  | false =>
    go_wp2_with (first | (with_reducible refine at_store 33 _ _ rfl ?_; refine wpList_store_arr iP rfl _ _ rfl _ rfl rfl (Blk.new _ _ _ _ _ rfl) ?_))
    go_ret
    exact ⟨rfl, hB4⟩
  | true =>
    have QX := Lib.hid (fun i (hi : i < 256) => And.intro (HX.out i hi).1 (redB_true hrx i hi))
    clear hrx
    cases hwi : withB (fun i => mred (r i)) (ss s 4 - 1) (ss s 4) with
    | false =>
      go_wp2_with (first | (with_reducible refine at_store 33 _ _ rfl ?_; refine wpList_store_arr iP rfl _ _ rfl _ rfl rfl (Blk.new _ _ _ _ _ rfl) ?_))
      refine wp_load_arr Tryd.underlying33 iP _ rfl _ rfl ga ?_
      go_wp2_with fail
      refine (lwWithin _ (ss s 4 - 1) (ss s 4) _ (by omega) (by omega) (by omega) (by omega) (fun i _ => ⟨mred_lo _, mred_hi _⟩)).mono ?_
      rintro e w3 ⟨rfl, hb3⟩
      rw [hwi]
      go_wp2_with fail
      go_ret
      exact ⟨rfl, belowChain hB4 hb3 hB4.size⟩
    | true =>
      have HF := Lib.hid (show ∀ i, i < 256 → 0 ≤ pval s r i ∧ pval s r i < 2 ^ dd s from fun i hi => by have := withB_true hwi i hi; unfold pval; omega)
      have hdd : 18 ≤ dd s ∧ dd s ≤ 20 := by unfold dd; split <;> omega
      obtain ⟨hd0, hd1⟩ := hdd
      go_wp2_with (first | (with_reducible refine at_store 33 _ _ rfl ?_; refine wpList_store_arr iP rfl _ _ rfl _ rfl rfl (Blk.new _ _ _ _ _ rfl) ?_))
      refine wp_load_arr Tryd.underlying33 iP _ rfl _ rfl ga ?_
      go_wp2_with fail
      refine (lwWithin _ (ss s 4 - 1) (ss s 4) _ (by omega) (by omega) (by omega) (by omega) (fun i _ => ⟨mred_lo _, mred_hi _⟩)).mono ?_
      rintro e w3 ⟨rfl, hb3⟩
      rw [hwi]
      clear hc4
      have f0 := f0'.below hb3
      have fs := fs'.below hb3
      have hB5 := belowChain hB4 hb3 hB4.size
      go_wp2_with (first | (with_reducible refine at_load 30 _ rfl ?_; refine wpList_load_arr Tryd.underlying30 iU rfl _ rfl _ rfl (f0) ?_))
      refine (implBitPack s r _ hs3 (hp.below hB5) QX.out HF.out).mono ?_
      rintro e w4 ⟨g, c, rfl, hb, hg, hc, hcm, hb4⟩
      have f0 := f0.below hb4
      have fs := fs.below hb4
      have hB6 := belowChain hB5 hb4 hB5.size
      have HB := Lib.hid hb; clear hb
      go_wp2_with fail
      refine wp_region_below (by kernel_rfl) (by kernel_rfl) ?_
      (first | go_big_quiet_skip | (go_big_quiet_want; go_big_quiet_op; first | go_big_quiet_on | (apply Exists.intro; refine ⟨fun _ _ => rfl, ?_⟩; go_big_quiet_on)))
      (first | go_big_quiet_skip | (go_big_quiet_want; go_big_quiet_op; first | go_big_quiet_on | (apply Exists.intro; refine ⟨fun _ _ => rfl, ?_⟩; go_big_quiet_on)))
      (first | go_big_quiet_skip | (go_big_quiet_want; go_big_quiet_op; first | go_big_quiet_on | (apply Exists.intro; refine ⟨fun _ _ => rfl, ?_⟩; go_big_quiet_on)))
      (refine BigFrame.wpQuiet_want rfl (fun K hK => ?_); refine quiet_load_int 3 _ rfl _ 4 rfl .i64 (ss s 4) Tryd.isAgg3 (fun w' hw' => (Blk.below (fs) hw').cellv 4 _ (by omega) rfl) (hK _ ?_); clear hK K; simp only [Act.put, List.setIfInBounds_toArray, List.set_cons_zero, List.set_cons_succ])
      (first | go_big_quiet_skip | (go_big_quiet_want; go_big_quiet_op; first | go_big_quiet_on | (apply Exists.intro; refine ⟨fun _ _ => rfl, ?_⟩; go_big_quiet_on)))
      (first | go_big_quiet_skip | (go_big_quiet_want; go_big_quiet_op; first | go_big_quiet_on | (apply Exists.intro; refine ⟨fun _ _ => rfl, ?_⟩; go_big_quiet_on)))
      go_big_quiet_step ((intro hw'; go_at_call 8; exact Calls.in_same hw' (spBits (blN s) _ (blN_lt s hs3))))
      rw [hbl]
      have hee : ((((32 * dd s : Nat) : Int)) == 32 * (dd s : Int)) = true := by simp
      (first | go_big_quiet_skip | (go_big_quiet_want; go_big_quiet_op; first | go_big_quiet_on | (apply Exists.intro; refine ⟨fun _ _ => rfl, ?_⟩; go_big_quiet_on)))
      (first | go_big_quiet_skip | (go_big_quiet_want; go_big_quiet_op; first | go_big_quiet_on | (apply Exists.intro; refine ⟨fun _ _ => rfl, ?_⟩; go_big_quiet_on)))
      (first | go_big_quiet_skip | (go_big_quiet_want; go_big_quiet_op; first | go_big_quiet_on | (apply Exists.intro; refine ⟨fun _ _ => rfl, ?_⟩; go_big_quiet_on)))
      (first | go_big_quiet_skip | (go_big_quiet_want; go_big_quiet_op; first | go_big_quiet_on | (apply Exists.intro; refine ⟨fun _ _ => rfl, ?_⟩; go_big_quiet_on)))
      (first | go_big_quiet_skip | (go_big_quiet_want; go_big_quiet_op; first | go_big_quiet_on | (apply Exists.intro; refine ⟨fun _ _ => rfl, ?_⟩; go_big_quiet_on)))
      go_big_quiet_step ((intro hw'; go_at_call 10; exact Calls.in_below hw' (implBitUnpack s ⟨g, 0, none⟩ c _ _ hs3 ((hp.below hB6).below hw') (HB.out.below hw') (fun i _ => pby_bd _ _ _ _))))
      (refine BigFrame.wpQuiet_want rfl (fun K hK => ?_); refine quiet_load_arr Tryd.underlying30 iU _ rfl _ rfl (fun w' hw' => Blk.below (f0) hw') (hK _ ?_); clear hK K; simp only [Act.put, List.setIfInBounds_toArray, List.set_cons_zero, List.set_cons_succ])
      (refine BigFrame.wpQuiet_want rfl (fun K hK => ?_); refine quiet_eql_arr Tryd.underlying30 Tryd.underlying29 Tryd.sizeOf29 Tryd.isAgg29 Tryd.eqGuardType30 _ _ _ rfl rfl rfl (fun i hi => uval_pby s r hs3 QX.out HF.out i hi) (hK _ ?_); clear hK K; simp only [Act.put, List.setIfInBounds_toArray, List.set_cons_zero, List.set_cons_succ])
      (first | go_big_quiet_skip | (go_big_quiet_want; go_big_quiet_op; first | go_big_quiet_on | (apply Exists.intro; refine ⟨fun _ _ => rfl, ?_⟩; go_big_quiet_on)))
      (first | go_big_quiet_skip | (go_big_quiet_want; go_big_quiet_op; first | go_big_quiet_on | (apply Exists.intro; refine ⟨fun _ _ => rfl, ?_⟩; go_big_quiet_on)))
      refine wpQuiet_nil ?_
      intro w7 hb7
      go_wp2_with fail
      go_ret
      exact ⟨rfl, belowChain hB6 hb7 hB6.size⟩

end Go.Proofs.YtejolgicllogjaaDoor
