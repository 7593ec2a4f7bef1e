/-
  The laws of the transform: of a sum, there and back, of a product.
-/
import Derived.Test.YtpfabgmoadljnaaDoorNtt4
import Derived.Test.YtpfabgmoadljnaaDoorNttP
import Derived.Test.YtpfabgmoadljnaaDoorEq
import Derived.Test.YtpfabgmoadljnaaDoorCell
namespace Go.Proofs.YtpfabgmoadljnaaDoor
open Go.RowKit

theorem quiet_eql_arr {P : Program} {C : World → Prop} {o : Oper} {a : Act} {K : Act → Prop} {t e : TypeId} {n : Nat} {k : IntKind} {z y : Nat → Int} (ht : P.underlying t = some (.array n e)) (he : P.underlying e = some (.int k)) (hs : ∀ w, (sizeOf e).run P w = .ok 1 w) (ha : ∀ w, (isAgg e).run P w = .ok false w)
    (hg : P.eqGuardType P.depth t = false) (x x' : Operand) (u : TypeId) (ho : o.op = .binOp .eql t x x' u) (hx : a.eval x = .agg (arr k n z)) (hy : a.eval x' = .agg (arr k n y)) (h : ∀ i, i < n → z i = y i) (hk : K (a.put o.dst (.bool true))) : o.quiet P a C K :=
  ⟨.bool true, fun w hw => by
    unfold Oper.quietAt execOp
    simp only [ho, hx, hy, Sem.run_bind, run_eqGuard_agg (hm := hg), run_eql_arr ht he hs ha z y h w, Result.andThen_ok, Sem.run_pure]
    exact ⟨rfl, rfl⟩, hk⟩
/-- The polynomial 1. -/
def e1 (i : Nat) : Int := if i = 0 then 1 else 0
theorem e1_bd (i : Nat) (_ : i < 256) : 0 ≤ e1 i ∧ e1 i < 8380417 := by unfold e1; split <;> omega
theorem e1_val (i : Nat) (hi : i < 256) : nttF e1 i = 1 := by
  refine Cg.eq ((nttF_val e1 i hi).trans (Cg.of_eq ?_)) (nttF_bd _ i).1 (nttF_bd _ i).2 (by omega) (by omega)
  rw [show (256 : Nat) = 255 + 1 from rfl, sm_shift]
  have : sm (fun j => e1 (j + 1) * rt i ^ (j + 1)) 255 = sm (fun _ => 0) 255 := sm_congr fun j _ => by unfold e1; rw [if_neg (by omega), Int.zero_mul]
  rw [this, sm_zero]
  unfold e1
  rw [if_pos rfl, Int.pow_zero]
  rfl
theorem e1_arr : (Array.replicate 256 (Value.int .u32 0)).setIfInBounds 0 (.int .u32 1) = arr .u32 256 e1 := by
  rw [arr_rep, arr_set]
  rfl

theorem bdU1 (w : World) : (Instr.build 23 #[(0, .int .u32 1)]).run Tryd.prog w = .ok (.agg (arr .u32 256 e1)) w := by
  rw [← e1_arr]
  exact run_build w 23 _ _ (by kernel_rfl)

set_option maxRecDepth 100000 in
set_option maxHeartbeats 1000000 in
theorem walkFnNTTLinear (x y : Nat → Int) (w : World) (hg : GArr w 0 .u32 256 zetaV) (hx : ∀ i, i < 256 → 0 ≤ x i ∧ x i < 4294967296) (hy : ∀ i, i < 256 → 0 ≤ y i ∧ y i < 4294967296) :
    Calls Tryd.prog 5 #[.agg (arr .u32 256 x), .agg (arr .u32 256 y)] w fun e w' => e = .returned (.bool true) ∧ Below w.heap.size w w' := by
  have HX := Lib.hid hx; clear hx
  have HY := Lib.hid hy; clear hy
  have HG := Lib.hid hg; clear hg
  have f0 := (Blk.new w .u32 256 x 23 rfl).alloc (.cells (arr .u32 256 y) 23)
  have f1 := Blk.new (g := w.heap.size + 1) (w.alloc (.cells (arr .u32 256 x) 23)) .u32 256 y 23 (by first | omega | (simp; done) | (simp; omega))
  have hB0 := ((Below.refl w.heap.size w).alloc (Nat.le_refl _) (.cells (arr .u32 256 x) 23)).alloc (by first | omega | (simp; done) | (simp; omega)) (.cells (arr .u32 256 y) 23)
  cases hrx : redB x with
  | false =>
    go_enter Tryd.func5, Tryd.ntmps5
    go_wp2_with fail
    refine (lwReducedArr _ x _ _ f0).mono ?_
    rintro e w' ⟨rfl, rfl⟩
    rw [hrx]
    go_wp2_with fail
    go_ret
    exact ⟨rfl, hB0⟩
  | true =>
    have QX := Lib.hid (fun i (hi : i < 256) => And.intro (HX.out i hi).1 (redB_true hrx i hi))
    cases hry : redB y with
    | false =>
      go_enter Tryd.func5, Tryd.ntmps5
      go_wp2_with fail
      refine (lwReducedArr _ x _ _ f0).mono ?_
      rintro e w' ⟨rfl, rfl⟩
      rw [hrx]
      go_wp2_with fail
      refine (lwReducedArr _ y _ _ f1).mono ?_
      rintro e w' ⟨rfl, rfl⟩
      rw [hry]
      go_wp2_with fail
      go_ret
      exact ⟨rfl, hB0⟩
    | true =>
      have QY := Lib.hid (fun i (hi : i < 256) => And.intro (HY.out i hi).1 (redB_true hry i hi))
      go_enter Tryd.func5, Tryd.ntmps5
      go_wp2_with fail
      refine (lwReducedArr _ x _ _ f0).mono ?_
      rintro e w' ⟨rfl, rfl⟩
      rw [hrx]
      go_wp2_with fail
      refine (lwReducedArr _ y _ _ f1).mono ?_
      rintro e w' ⟨rfl, rfl⟩
      rw [hry]
      clear hrx hry
      have hbu := bdU1
      go_wp2_with fail
      refine (implToNTT e1 _ e1_bd (HG.out.below hB0)).mono ?_
      rintro e w1 ⟨rfl, hb1⟩
      clear hbu
      have f0 := f0.below hb1
      have f1 := f1.below hb1
      have hB1 := belowChain hB0 hb1 hB0.size
      have hs1 := f1.lt
      clear hb1
      go_wp2_with (first | (with_reducible refine at_store 23 _ _ rfl ?_; refine wpList_store_arr iU rfl _ _ rfl _ rfl rfl (Blk.new _ _ _ _ _ rfl) ?_))
      have f0 := (f0.alloc (.cells (arr .u32 256 (fun _ => 0)) 23)).rowOther w1.heap.size (arr .u32 256 (nttF e1)) (by first | omega | (simp; done) | (simp; omega))
      have f1 := (f1.alloc (.cells (arr .u32 256 (fun _ => 0)) 23)).rowOther w1.heap.size (arr .u32 256 (nttF e1)) (by first | omega | (simp; done) | (simp; omega))
      have go := (Blk.new w1 .u32 256 (fun _ => 0) 23 rfl).row .u32 (nttF e1)
      have hB2 := below_setRow (hB1.alloc (by first | omega | (simp; done) | (simp; omega)) (.cells (arr .u32 256 (fun _ => 0)) 23)) (g := w1.heap.size) (by first | omega | (simp; done) | (simp; omega)) (arr .u32 256 (nttF e1))
      try simp only [Act.put]
      refine wp_region_below (by kernel_rfl) (by kernel_rfl) ?_
      (first | go_big_quiet_skip | (go_big_quiet_want; go_big_quiet_op; first | go_big_quiet_on | (apply Exists.intro; refine ⟨fun _ _ => rfl, ?_⟩; go_big_quiet_on)))
      (refine BigFrame.wpQuiet_want rfl (fun K hK => ?_); refine quiet_load_int 22 _ rfl _ 0 rfl .u32 (1) Tryd.isAgg22 (fun w' hw' => (Blk.below (go) hw').cellv 0 _ (by omega) (e1_val 0 (by omega))) (hK _ ?_); clear hK K; simp only [Act.put, List.setIfInBounds_toArray, List.set_cons_zero, List.set_cons_succ])
      (first | go_big_quiet_skip | (go_big_quiet_want; go_big_quiet_op; first | go_big_quiet_on | (apply Exists.intro; refine ⟨fun _ _ => rfl, ?_⟩; go_big_quiet_on)))
      (first | go_big_quiet_skip | (go_big_quiet_want; go_big_quiet_op; first | go_big_quiet_on | (apply Exists.intro; refine ⟨fun _ _ => rfl, ?_⟩; go_big_quiet_on)))
      (first | go_big_quiet_skip | (go_big_quiet_want; go_big_quiet_op; first | go_big_quiet_on | (apply Exists.intro; refine ⟨fun _ _ => rfl, ?_⟩; go_big_quiet_on)))
      (refine BigFrame.wpQuiet_want rfl (fun K hK => ?_); refine quiet_load_int 22 _ rfl _ 255 rfl .u32 (1) Tryd.isAgg22 (fun w' hw' => (Blk.below (go) hw').cellv 255 _ (by omega) (e1_val 255 (by omega))) (hK _ ?_); clear hK K; simp only [Act.put, List.setIfInBounds_toArray, List.set_cons_zero, List.set_cons_succ])
      (first | go_big_quiet_skip | (go_big_quiet_want; go_big_quiet_op; first | go_big_quiet_on | (apply Exists.intro; refine ⟨fun _ _ => rfl, ?_⟩; go_big_quiet_on)))
      (first | go_big_quiet_skip | (go_big_quiet_want; go_big_quiet_op; first | go_big_quiet_on | (apply Exists.intro; refine ⟨fun _ _ => rfl, ?_⟩; go_big_quiet_on)))
      (first | go_big_quiet_skip | (go_big_quiet_want; go_big_quiet_op; first | go_big_quiet_on | (apply Exists.intro; refine ⟨fun _ _ => rfl, ?_⟩; go_big_quiet_on)))
      (refine BigFrame.wpQuiet_want rfl (fun K hK => ?_); refine quiet_load_arr Tryd.underlying23 iU _ rfl _ rfl (fun w' hw' => Blk.below (f0) hw') (hK _ ?_); clear hK K; simp only [Act.put, List.setIfInBounds_toArray, List.set_cons_zero, List.set_cons_succ])
      (refine BigFrame.wpQuiet_want rfl (fun K hK => ?_); refine quiet_load_arr Tryd.underlying23 iU _ rfl _ rfl (fun w' hw' => Blk.below (f1) hw') (hK _ ?_); clear hK K; simp only [Act.put, List.setIfInBounds_toArray, List.set_cons_zero, List.set_cons_succ])
      go_big_quiet_step ((intro hw'; go_at_call 16; exact Calls.in_below hw' (implRingAdd (x) (y) _ (QX.out) (QY.out))))
      go_big_quiet_step ((intro hw'; go_at_call 11; exact Calls.in_below hw' (implToNTT (fun i => (x i + y i) % 8380417) _ (fun i _ => by omega) ((HG.out.below hB2).below hw'))))
      (refine BigFrame.wpQuiet_want rfl (fun K hK => ?_); refine quiet_load_arr Tryd.underlying23 iU _ rfl _ rfl (fun w' hw' => Blk.below (f0) hw') (hK _ ?_); clear hK K; simp only [Act.put, List.setIfInBounds_toArray, List.set_cons_zero, List.set_cons_succ])
      go_big_quiet_step ((intro hw'; go_at_call 11; exact Calls.in_below hw' (implToNTT (x) _ (QX.out) ((HG.out.below hB2).below hw'))))
      (refine BigFrame.wpQuiet_want rfl (fun K hK => ?_); refine quiet_load_arr Tryd.underlying23 iU _ rfl _ rfl (fun w' hw' => Blk.below (f1) hw') (hK _ ?_); clear hK K; simp only [Act.put, List.setIfInBounds_toArray, List.set_cons_zero, List.set_cons_succ])
      go_big_quiet_step ((intro hw'; go_at_call 11; exact Calls.in_below hw' (implToNTT (y) _ (QY.out) ((HG.out.below hB2).below hw'))))
      go_big_quiet_step ((intro hw'; go_at_call 16; exact Calls.in_below hw' (implRingAdd (nttF x) (nttF y) _ ((fun i _ => nttF_bd _ i)) ((fun i _ => nttF_bd _ i)))))
      (refine BigFrame.wpQuiet_want rfl (fun K hK => ?_); refine quiet_eql_arr Tryd.underlying23 Tryd.underlying22 Tryd.sizeOf22 Tryd.isAgg22 Tryd.eqGuardType23 _ _ _ rfl rfl rfl (fun i hi => ntt_add x y i hi) (hK _ ?_); clear hK K; simp only [Act.put, List.setIfInBounds_toArray, List.set_cons_zero, List.set_cons_succ])
      (first | go_big_quiet_skip | (go_big_quiet_want; go_big_quiet_op; first | go_big_quiet_on | (apply Exists.intro; refine ⟨fun _ _ => rfl, ?_⟩; go_big_quiet_on)))
      (first | go_big_quiet_skip | (go_big_quiet_want; go_big_quiet_op; first | go_big_quiet_on | (apply Exists.intro; refine ⟨fun _ _ => rfl, ?_⟩; go_big_quiet_on)))
      refine wpQuiet_nil ?_
      intro w2 hb2
      go_wp2_with fail
      go_ret
      exact ⟨rfl, belowChain hB2 hb2 (by first | omega | (simp; done) | (simp; omega))⟩

theorem redB_of {z : Nat → Int} (h : ∀ i, i < 256 → 0 ≤ z i ∧ z i < 8380417) : redB z = true := by
  unfold redB
  rw [List.all_eq_true]
  intro i hi
  have := h i (List.mem_range.1 hi)
  simp; omega
theorem lwRedT (g : Nat) (z : Nat → Int) (t : TypeId) (w : World) (h : Blk w g .u32 256 z t) (hz : ∀ i, i < 256 → 0 ≤ z i ∧ z i < 8380417) :
    Calls Tryd.prog 15 #[.slice (some ⟨g, 0, none⟩) 256 256] w fun e w' => e = .returned (.bool true) ∧ w = w' := by
  rw [← redB_of hz]
  exact lwReducedArr g z t w h

end Go.Proofs.YtpfabgmoadljnaaDoor
