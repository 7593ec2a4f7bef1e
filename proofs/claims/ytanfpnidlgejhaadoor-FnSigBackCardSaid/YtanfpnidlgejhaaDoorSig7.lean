/-
  A signature read: the law.
-/
import Derived.Test.YtanfpnidlgejhaaDoorSig6
import Derived.Test.YtanfpnidlgejhaaDoorHint8
namespace Go.Proofs.YtanfpnidlgejhaaDoor
open Go.RowKit

set_option maxRecDepth 100000 in
set_option maxHeartbeats 1000000 in
theorem spSigSize (s : Nat) (w : World) (hs : s < 3) : Calls Tryd.prog 8 #[.agg (arr .i64 8 (ss s))] w fun e w' => e = .returned (.int .i64 ((sgz s : Nat) : Int)) ∧ Below w.heap.size w w' := by
  have h3 : s = 0 ∨ s = 1 ∨ s = 2 := by omega
  clear hs
  rcases h3 with rfl | rfl | rfl
  · go_enter Tryd.func8, Tryd.ntmps8
    go_wp2_with fail
    refine wp_region_below (by kernel_rfl) (by kernel_rfl) ?_
    (first | go_big_quiet_skip | (go_big_quiet_want; go_big_quiet_op; first | go_big_quiet_on | (apply Exists.intro; refine ⟨fun _ _ => rfl, ?_⟩; go_big_quiet_on)))
    (refine BigFrame.wpQuiet_want rfl (fun K hK => ?_); refine quiet_load_int 3 _ rfl _ 7 rfl .i64 (32) Tryd.isAgg3 (fun w' hw' => (Blk.below ((Blk.new (g := w.heap.size) w .i64 8 (ss 0) 24 rfl)) hw').cellv 7 _ (by omega) rfl) (hK _ ?_); clear hK K; simp only [Act.put, List.setIfInBounds_toArray, List.set_cons_zero, List.set_cons_succ])
    (first | go_big_quiet_skip | (go_big_quiet_want; go_big_quiet_op; first | go_big_quiet_on | (apply Exists.intro; refine ⟨fun _ _ => rfl, ?_⟩; go_big_quiet_on)))
    (refine BigFrame.wpQuiet_want rfl (fun K hK => ?_); refine quiet_load_int 3 _ rfl _ 1 rfl .i64 (4) Tryd.isAgg3 (fun w' hw' => (Blk.below ((Blk.new (g := w.heap.size) w .i64 8 (ss 0) 24 rfl)) hw').cellv 1 _ (by omega) rfl) (hK _ ?_); clear hK K; simp only [Act.put, List.setIfInBounds_toArray, List.set_cons_zero, List.set_cons_succ])
    (first | go_big_quiet_skip | (go_big_quiet_want; go_big_quiet_op; first | go_big_quiet_on | (apply Exists.intro; refine ⟨fun _ _ => rfl, ?_⟩; go_big_quiet_on)))
    (first | go_big_quiet_skip | (go_big_quiet_want; go_big_quiet_op; first | go_big_quiet_on | (apply Exists.intro; refine ⟨fun _ _ => rfl, ?_⟩; go_big_quiet_on)))
    (refine BigFrame.wpQuiet_want rfl (fun K hK => ?_); refine quiet_load_int 3 _ rfl _ 4 rfl .i64 (131072) Tryd.isAgg3 (fun w' hw' => (Blk.below ((Blk.new (g := w.heap.size) w .i64 8 (ss 0) 24 rfl)) hw').cellv 4 _ (by omega) rfl) (hK _ ?_); clear hK K; simp only [Act.put, List.setIfInBounds_toArray, List.set_cons_zero, List.set_cons_succ])
    (first | go_big_quiet_skip | (go_big_quiet_want; go_big_quiet_op; first | go_big_quiet_on | (apply Exists.intro; refine ⟨fun _ _ => rfl, ?_⟩; go_big_quiet_on)))
    (first | go_big_quiet_skip | (go_big_quiet_want; go_big_quiet_op; first | go_big_quiet_on | (apply Exists.intro; refine ⟨fun _ _ => rfl, ?_⟩; go_big_quiet_on)))
    go_big_quiet_step ((intro hw'; go_at_call 9; exact Calls.in_same hw' (spBits 262143 _ (by decide))))
    rw [blen_18]
    (first | go_big_quiet_skip | (go_big_quiet_want; go_big_quiet_op; first | go_big_quiet_on | (apply Exists.intro; refine ⟨fun _ _ => rfl, ?_⟩; go_big_quiet_on)))
    (first | go_big_quiet_skip | (go_big_quiet_want; go_big_quiet_op; first | go_big_quiet_on | (apply Exists.intro; refine ⟨fun _ _ => rfl, ?_⟩; go_big_quiet_on)))
    (first | go_big_quiet_skip | (go_big_quiet_want; go_big_quiet_op; first | go_big_quiet_on | (apply Exists.intro; refine ⟨fun _ _ => rfl, ?_⟩; go_big_quiet_on)))
    (refine BigFrame.wpQuiet_want rfl (fun K hK => ?_); refine quiet_load_int 3 _ rfl _ 6 rfl .i64 (80) Tryd.isAgg3 (fun w' hw' => (Blk.below ((Blk.new (g := w.heap.size) w .i64 8 (ss 0) 24 rfl)) hw').cellv 6 _ (by omega) rfl) (hK _ ?_); clear hK K; simp only [Act.put, List.setIfInBounds_toArray, List.set_cons_zero, List.set_cons_succ])
    (first | go_big_quiet_skip | (go_big_quiet_want; go_big_quiet_op; first | go_big_quiet_on | (apply Exists.intro; refine ⟨fun _ _ => rfl, ?_⟩; go_big_quiet_on)))
    (first | go_big_quiet_skip | (go_big_quiet_want; go_big_quiet_op; first | go_big_quiet_on | (apply Exists.intro; refine ⟨fun _ _ => rfl, ?_⟩; go_big_quiet_on)))
    (refine BigFrame.wpQuiet_want rfl (fun K hK => ?_); refine quiet_load_int 3 _ rfl _ 0 rfl .i64 (4) Tryd.isAgg3 (fun w' hw' => (Blk.below ((Blk.new (g := w.heap.size) w .i64 8 (ss 0) 24 rfl)) hw').cellv 0 _ (by omega) rfl) (hK _ ?_); clear hK K; simp only [Act.put, List.setIfInBounds_toArray, List.set_cons_zero, List.set_cons_succ])
    (first | go_big_quiet_skip | (go_big_quiet_want; go_big_quiet_op; first | go_big_quiet_on | (apply Exists.intro; refine ⟨fun _ _ => rfl, ?_⟩; go_big_quiet_on)))
    (first | go_big_quiet_skip | (go_big_quiet_want; go_big_quiet_op; first | go_big_quiet_on | (apply Exists.intro; refine ⟨fun _ _ => rfl, ?_⟩; go_big_quiet_on)))
    refine wpQuiet_nil ?_
    intro w3 hb3
    go_wp2_with fail
    go_ret
    exact ⟨rfl, belowChain ((Below.refl w.heap.size w).alloc (Nat.le_refl _) (.cells (arr .i64 8 (ss 0)) 24)) hb3 (by first | omega | (simp; done) | (simp; omega))⟩
  · go_enter Tryd.func8, Tryd.ntmps8
    go_wp2_with fail
    refine wp_region_below (by kernel_rfl) (by kernel_rfl) ?_
    (first | go_big_quiet_skip | (go_big_quiet_want; go_big_quiet_op; first | go_big_quiet_on | (apply Exists.intro; refine ⟨fun _ _ => rfl, ?_⟩; go_big_quiet_on)))
    (refine BigFrame.wpQuiet_want rfl (fun K hK => ?_); refine quiet_load_int 3 _ rfl _ 7 rfl .i64 (48) Tryd.isAgg3 (fun w' hw' => (Blk.below ((Blk.new (g := w.heap.size) w .i64 8 (ss 1) 24 rfl)) hw').cellv 7 _ (by omega) rfl) (hK _ ?_); clear hK K; simp only [Act.put, List.setIfInBounds_toArray, List.set_cons_zero, List.set_cons_succ])
    (first | go_big_quiet_skip | (go_big_quiet_want; go_big_quiet_op; first | go_big_quiet_on | (apply Exists.intro; refine ⟨fun _ _ => rfl, ?_⟩; go_big_quiet_on)))
    (refine BigFrame.wpQuiet_want rfl (fun K hK => ?_); refine quiet_load_int 3 _ rfl _ 1 rfl .i64 (5) Tryd.isAgg3 (fun w' hw' => (Blk.below ((Blk.new (g := w.heap.size) w .i64 8 (ss 1) 24 rfl)) hw').cellv 1 _ (by omega) rfl) (hK _ ?_); clear hK K; simp only [Act.put, List.setIfInBounds_toArray, List.set_cons_zero, List.set_cons_succ])
    (first | go_big_quiet_skip | (go_big_quiet_want; go_big_quiet_op; first | go_big_quiet_on | (apply Exists.intro; refine ⟨fun _ _ => rfl, ?_⟩; go_big_quiet_on)))
    (first | go_big_quiet_skip | (go_big_quiet_want; go_big_quiet_op; first | go_big_quiet_on | (apply Exists.intro; refine ⟨fun _ _ => rfl, ?_⟩; go_big_quiet_on)))
    (refine BigFrame.wpQuiet_want rfl (fun K hK => ?_); refine quiet_load_int 3 _ rfl _ 4 rfl .i64 (524288) Tryd.isAgg3 (fun w' hw' => (Blk.below ((Blk.new (g := w.heap.size) w .i64 8 (ss 1) 24 rfl)) hw').cellv 4 _ (by omega) rfl) (hK _ ?_); clear hK K; simp only [Act.put, List.setIfInBounds_toArray, List.set_cons_zero, List.set_cons_succ])
    (first | go_big_quiet_skip | (go_big_quiet_want; go_big_quiet_op; first | go_big_quiet_on | (apply Exists.intro; refine ⟨fun _ _ => rfl, ?_⟩; go_big_quiet_on)))
    (first | go_big_quiet_skip | (go_big_quiet_want; go_big_quiet_op; first | go_big_quiet_on | (apply Exists.intro; refine ⟨fun _ _ => rfl, ?_⟩; go_big_quiet_on)))
    go_big_quiet_step ((intro hw'; go_at_call 9; exact Calls.in_same hw' (spBits 1048575 _ (by decide))))
    rw [blen_20]
    (first | go_big_quiet_skip | (go_big_quiet_want; go_big_quiet_op; first | go_big_quiet_on | (apply Exists.intro; refine ⟨fun _ _ => rfl, ?_⟩; go_big_quiet_on)))
    (first | go_big_quiet_skip | (go_big_quiet_want; go_big_quiet_op; first | go_big_quiet_on | (apply Exists.intro; refine ⟨fun _ _ => rfl, ?_⟩; go_big_quiet_on)))
    (first | go_big_quiet_skip | (go_big_quiet_want; go_big_quiet_op; first | go_big_quiet_on | (apply Exists.intro; refine ⟨fun _ _ => rfl, ?_⟩; go_big_quiet_on)))
    (refine BigFrame.wpQuiet_want rfl (fun K hK => ?_); refine quiet_load_int 3 _ rfl _ 6 rfl .i64 (55) Tryd.isAgg3 (fun w' hw' => (Blk.below ((Blk.new (g := w.heap.size) w .i64 8 (ss 1) 24 rfl)) hw').cellv 6 _ (by omega) rfl) (hK _ ?_); clear hK K; simp only [Act.put, List.setIfInBounds_toArray, List.set_cons_zero, List.set_cons_succ])
    (first | go_big_quiet_skip | (go_big_quiet_want; go_big_quiet_op; first | go_big_quiet_on | (apply Exists.intro; refine ⟨fun _ _ => rfl, ?_⟩; go_big_quiet_on)))
    (first | go_big_quiet_skip | (go_big_quiet_want; go_big_quiet_op; first | go_big_quiet_on | (apply Exists.intro; refine ⟨fun _ _ => rfl, ?_⟩; go_big_quiet_on)))
    (refine BigFrame.wpQuiet_want rfl (fun K hK => ?_); refine quiet_load_int 3 _ rfl _ 0 rfl .i64 (6) Tryd.isAgg3 (fun w' hw' => (Blk.below ((Blk.new (g := w.heap.size) w .i64 8 (ss 1) 24 rfl)) hw').cellv 0 _ (by omega) rfl) (hK _ ?_); clear hK K; simp only [Act.put, List.setIfInBounds_toArray, List.set_cons_zero, List.set_cons_succ])
    (first | go_big_quiet_skip | (go_big_quiet_want; go_big_quiet_op; first | go_big_quiet_on | (apply Exists.intro; refine ⟨fun _ _ => rfl, ?_⟩; go_big_quiet_on)))
    (first | go_big_quiet_skip | (go_big_quiet_want; go_big_quiet_op; first | go_big_quiet_on | (apply Exists.intro; refine ⟨fun _ _ => rfl, ?_⟩; go_big_quiet_on)))
    refine wpQuiet_nil ?_
    intro w3 hb3
    go_wp2_with fail
    go_ret
    exact ⟨rfl, belowChain ((Below.refl w.heap.size w).alloc (Nat.le_refl _) (.cells (arr .i64 8 (ss 1)) 24)) hb3 (by first | omega | (simp; done) | (simp; omega))⟩
  · go_enter Tryd.func8, Tryd.ntmps8
    go_wp2_with fail
    refine wp_region_below (by kernel_rfl) (by kernel_rfl) ?_
    (first | go_big_quiet_skip | (go_big_quiet_want; go_big_quiet_op; first | go_big_quiet_on | (apply Exists.intro; refine ⟨fun _ _ => rfl, ?_⟩; go_big_quiet_on)))
    (refine BigFrame.wpQuiet_want rfl (fun K hK => ?_); refine quiet_load_int 3 _ rfl _ 7 rfl .i64 (64) Tryd.isAgg3 (fun w' hw' => (Blk.below ((Blk.new (g := w.heap.size) w .i64 8 (ss 2) 24 rfl)) hw').cellv 7 _ (by omega) rfl) (hK _ ?_); clear hK K; simp only [Act.put, List.setIfInBounds_toArray, List.set_cons_zero, List.set_cons_succ])
    (first | go_big_quiet_skip | (go_big_quiet_want; go_big_quiet_op; first | go_big_quiet_on | (apply Exists.intro; refine ⟨fun _ _ => rfl, ?_⟩; go_big_quiet_on)))
    (refine BigFrame.wpQuiet_want rfl (fun K hK => ?_); refine quiet_load_int 3 _ rfl _ 1 rfl .i64 (7) Tryd.isAgg3 (fun w' hw' => (Blk.below ((Blk.new (g := w.heap.size) w .i64 8 (ss 2) 24 rfl)) hw').cellv 1 _ (by omega) rfl) (hK _ ?_); clear hK K; simp only [Act.put, List.setIfInBounds_toArray, List.set_cons_zero, List.set_cons_succ])
    (first | go_big_quiet_skip | (go_big_quiet_want; go_big_quiet_op; first | go_big_quiet_on | (apply Exists.intro; refine ⟨fun _ _ => rfl, ?_⟩; go_big_quiet_on)))
    (first | go_big_quiet_skip | (go_big_quiet_want; go_big_quiet_op; first | go_big_quiet_on | (apply Exists.intro; refine ⟨fun _ _ => rfl, ?_⟩; go_big_quiet_on)))
    (refine BigFrame.wpQuiet_want rfl (fun K hK => ?_); refine quiet_load_int 3 _ rfl _ 4 rfl .i64 (524288) Tryd.isAgg3 (fun w' hw' => (Blk.below ((Blk.new (g := w.heap.size) w .i64 8 (ss 2) 24 rfl)) hw').cellv 4 _ (by omega) rfl) (hK _ ?_); clear hK K; simp only [Act.put, List.setIfInBounds_toArray, List.set_cons_zero, List.set_cons_succ])
    (first | go_big_quiet_skip | (go_big_quiet_want; go_big_quiet_op; first | go_big_quiet_on | (apply Exists.intro; refine ⟨fun _ _ => rfl, ?_⟩; go_big_quiet_on)))
    (first | go_big_quiet_skip | (go_big_quiet_want; go_big_quiet_op; first | go_big_quiet_on | (apply Exists.intro; refine ⟨fun _ _ => rfl, ?_⟩; go_big_quiet_on)))
    go_big_quiet_step ((intro hw'; go_at_call 9; exact Calls.in_same hw' (spBits 1048575 _ (by decide))))
    rw [blen_20]
    (first | go_big_quiet_skip | (go_big_quiet_want; go_big_quiet_op; first | go_big_quiet_on | (apply Exists.intro; refine ⟨fun _ _ => rfl, ?_⟩; go_big_quiet_on)))
    (first | go_big_quiet_skip | (go_big_quiet_want; go_big_quiet_op; first | go_big_quiet_on | (apply Exists.intro; refine ⟨fun _ _ => rfl, ?_⟩; go_big_quiet_on)))
    (first | go_big_quiet_skip | (go_big_quiet_want; go_big_quiet_op; first | go_big_quiet_on | (apply Exists.intro; refine ⟨fun _ _ => rfl, ?_⟩; go_big_quiet_on)))
    (refine BigFrame.wpQuiet_want rfl (fun K hK => ?_); refine quiet_load_int 3 _ rfl _ 6 rfl .i64 (75) Tryd.isAgg3 (fun w' hw' => (Blk.below ((Blk.new (g := w.heap.size) w .i64 8 (ss 2) 24 rfl)) hw').cellv 6 _ (by omega) rfl) (hK _ ?_); clear hK K; simp only [Act.put, List.setIfInBounds_toArray, List.set_cons_zero, List.set_cons_succ])
    (first | go_big_quiet_skip | (go_big_quiet_want; go_big_quiet_op; first | go_big_quiet_on | (apply Exists.intro; refine ⟨fun _ _ => rfl, ?_⟩; go_big_quiet_on)))
    (first | go_big_quiet_skip | (go_big_quiet_want; go_big_quiet_op; first | go_big_quiet_on | (apply Exists.intro; refine ⟨fun _ _ => rfl, ?_⟩; go_big_quiet_on)))
    (refine BigFrame.wpQuiet_want rfl (fun K hK => ?_); refine quiet_load_int 3 _ rfl _ 0 rfl .i64 (8) Tryd.isAgg3 (fun w' hw' => (Blk.below ((Blk.new (g := w.heap.size) w .i64 8 (ss 2) 24 rfl)) hw').cellv 0 _ (by omega) rfl) (hK _ ?_); clear hK K; simp only [Act.put, List.setIfInBounds_toArray, List.set_cons_zero, List.set_cons_succ])
    (first | go_big_quiet_skip | (go_big_quiet_want; go_big_quiet_op; first | go_big_quiet_on | (apply Exists.intro; refine ⟨fun _ _ => rfl, ?_⟩; go_big_quiet_on)))
    (first | go_big_quiet_skip | (go_big_quiet_want; go_big_quiet_op; first | go_big_quiet_on | (apply Exists.intro; refine ⟨fun _ _ => rfl, ?_⟩; go_big_quiet_on)))
    refine wpQuiet_nil ?_
    intro w3 hb3
    go_wp2_with fail
    go_ret
    exact ⟨rfl, belowChain ((Below.refl w.heap.size w).alloc (Nat.le_refl _) (.cells (arr .i64 8 (ss 2)) 24)) hb3 (by first | omega | (simp; done) | (simp; omega))⟩

theorem wpOp_one {P : Program} {ops : Array Oper} {Q : Exit → Act → World → Prop} {i : Nat} {a : Act} {w : World} {K : Act → World → Prop} (o : Oper) (ho : ops[i]? = some o) (h : wpQuiet P ops (fun x => x = w) (fun a' => K a' w) [o] a) : wpOp P ops Q i K a w := by
  have hq : qOp P ops (fun x => x = w) i (wpQuiet P ops (fun x => x = w) (fun a' => K a' w) []) a := by
    unfold qOp
    simp only [ho]
    exact h
  exact wpOp_of_qOp (C := fun x => x = w) rfl (fun a' w' hC' h' => by subst hC'; exact h') hq

theorem Rd.sub1 {k : IntKind} {w : World} {x : Addr} {n o m : Nat} {b : Nat → Int} (h : Rd k w x n b) (hm : o + m ≤ n) : Rd k w (x.add o) m (fun i => b (o + i)) := fun j hj => by
  rw [Deep.add_add]; exact h (o + j) (by omega)
theorem isRow_le1 {k : IntKind} {w w' : World} {a : Option Addr} {len cap : Nat} {zs : List Int} (h : IsRow k w a len cap zs) (hb : Below w.heap.size w w') : IsRow k w' a len cap zs := by
  rcases h with h | ⟨x, h1, h2, h3, h4, h5, h6⟩
  · exact .inl h
  · exact .inr ⟨x, h1, h2, h3, h4, fun j hj => by rw [hb.cell (p := x.add j) (block_lt_of_cell (h5 j hj)), h5 j hj], h6⟩

set_option maxRecDepth 100000 in
set_option maxHeartbeats 4000000 in
theorem walkFnSigDecode (n : Int) (a : Option Addr) (len cap : Nat) (zs : List Int) (w : World) (hp : Par w) (he3 : GErr w 3) (he4 : GErr w 4) (he5 : GErr w 5) (he6 : GErr w 6) (n0 : 0 ≤ n) (n1 : n < 256) (h : IsRow .u8 w a len cap zs) :
    Calls Tryd.prog 3 #[.int .u8 n, .slice a len cap] w fun e w' => e = .returned (.bool true) ∧ Below w.heap.size w w' := by
  obtain ⟨s, hs⟩ : ∃ s : Nat, (s : Int) = n % 3 := ⟨(n % 3).toNat, by omega⟩
  have hs3 : s < 3 := by omega
  obtain ⟨hk0, hk1⟩ := kk_bd s hs3
  obtain ⟨hl0, hl1⟩ := ll_bd s hs3
  obtain ⟨hc0, hc1⟩ := cc_bd s hs3
  obtain ⟨ho0, ho1⟩ := om_bd s hs3
  obtain ⟨hd0, hd1⟩ := dd_bd s hs3
  have hsb := sgz_bd s hs3
  have hgm : 2 * ss s 4 - 1 = (blN s : Int) := by
    have h3 : s = 0 ∨ s = 1 ∨ s = 2 := by omega
    rcases h3 with rfl | rfl | rfl <;> rfl
  have hgb : 1 ≤ ss s 4 ∧ ss s 4 ≤ 524288 := by
    have h3 : s = 0 ∨ s = 1 ∨ s = 2 := by omega
    rcases h3 with rfl | rfl | rfl <;> decide
  obtain ⟨hg0, hg1⟩ := hgb
  have hse : cc s ≤ sgz s := by unfold sgz mm; omega
  by_cases hq1 : 2147483647 < len
  · go_enter Tryd.func3, Tryd.ntmps3
    go_wp2_with fail
    go_ret
    exact ⟨rfl, Below.refl _ _⟩
  go_enter Tryd.func3, Tryd.ntmps3
  go_wp2_with fail
  refine (lwSet _ s _ n0 n1 hs).mono ?_
  rintro e w1 ⟨rfl, hb1⟩
  clear hs
  have fs := (Blk.zeros8 w1 24 rfl).row .i64 (ss s)
  have hB2 := below_setRow (hb1.alloc hb1.size (.cells #[.int .i64 0, .int .i64 0, .int .i64 0, .int .i64 0, .int .i64 0, .int .i64 0, .int .i64 0, .int .i64 0] 24)) (g := w1.heap.size) hb1.size (arr .i64 8 (ss s))
  clear hb1
  go_wp2_with (first | (with_reducible refine at_store 24 _ _ rfl ?_; refine wpList_store_arr iSet rfl _ _ rfl _ rfl rfl (Blk.zeros8 _ _ rfl) ?_))
  by_cases hl : len = sgz s
  · subst hl
    obtain ⟨x, rfl, hr, hb⟩ := rd_of_row h (by omega)
    have hcap : sgz s ≤ cap := by
      rcases h with ⟨_, h0, _⟩ | ⟨x, _, hl, _⟩
      · omega
      · exact hl
    obtain ⟨b, hbv⟩ : ∃ b : Nat → Int, b = fun j => zs.getD j 0 := ⟨_, rfl⟩
    rw [← hbv] at hr
    replace hb : ∀ i, i < sgz s → 0 ≤ b i ∧ b i < 256 := fun i hi => by rw [hbv]; exact hb i hi
    clear hbv h
    have HB := Lib.hid hb; clear hb
    have HR := Lib.hid hr; clear hr
    have hne : (((sgz s : Nat) : Int) != ((sgz s : Nat) : Int)) = false := by simp
    refine (implSigDecode s cap x b _ hs3 (hp.below hB2) (he4.below hB2) (he5.below hB2) (he6.below hB2) (HR.out.below hB2) HB.out).mono ?_
    rintro e w3 ⟨hd, hb3⟩
    have hB3 := belowChain hB2 hb3 hB2.size
    have fs := fs.below hb3
    clear hB2 hb3
    rcases hd with ⟨hok, g, c, gz, cz, gh, rfl, hrd, hmz, hbt⟩ | ⟨hok, v1, v2, v3, rfl⟩
    · go_wp2_with (first | (with_reducible refine at_load 24 _ rfl ?_; refine wpList_load_s Tryd.underlying24 rfl iSet rfl _ rfl _ rfl (fs) ?_))
      refine (spSigSize s _ hs3).mono ?_
      rintro e w4 ⟨rfl, hb4⟩
      have fs := fs.below hb4
      have hB4 := belowChain hB3 hb4 hB3.size
      have hc4 := fs.cellv 4 (ss s 4) (by omega) rfl
      go_wp2_with fail
      refine (spBits (blN s) _ (blN_lt s hs3)).mono ?_
      rintro e w5 ⟨rfl, rfl⟩
      rw [blN_dd]
      go_wp2_with fail
      obtain ⟨W, hW⟩ : ∃ W, W = 32 * dd s := ⟨_, rfl⟩
      have hw : (32 : Int) * ((dd s : Nat) : Int) = ((W : Nat) : Int) := by omega
      rw [hw]
      clear hw
      have hW0 : 576 ≤ W ∧ W ≤ 640 := by omega
      have HW := Lib.hid hW; clear hW
      obtain ⟨P, hPe⟩ : ∃ P, P = ll s * W := ⟨_, rfl⟩
      have hP : ((ll s : Nat) : Int) * ((W : Nat) : Int) = ((P : Nat) : Int) := by rw [hPe]; simp
      have hP0 : P ≤ 4480 := by rw [hPe]; exact Nat.mul_le_mul hl1 hW0.2
      obtain ⟨hW0, hW1⟩ := hW0
      have hmm : mm s = cc s + P := by unfold mm; rw [hPe, HW.out]
      have hss : sgz s = mm s + (om s + kk s) := rfl
      have hs2 : cc s + P + (om s + kk s) ≤ sgz s := by omega
      have hs3' : sgz s ≤ cc s + P + (om s + kk s) := by omega
      have HMM := Lib.hid hmm; clear hmm hss
      have HPE := Lib.hid hPe; clear hPe
      have HRH : Hid (Rd .u8 w (x.add (cc s + P)) (om s + kk s) (hby s b)) := Lib.hid (by
        have h := Rd.sub1 HR.out (o := cc s + P) (m := om s + kk s) (by omega)
        intro j hj
        have h2 := h j hj
        unfold hby
        rw [HMM.out]
        exact h2)
      have hb4' := hb4
      clear hb4
      try simp only [Act.put]
      refine wp_region_viaA (fun A a' w' => ∃ gu, BBlk w' gu (kk s * 256) (fun p => decide (drow (hby s b) (om s) (kk s) p ≠ 0)) 65 ∧ Below w4.heap.size w4 w' ∧ a' = ((((((((((((((((A.put (some 46) (.agg (arr .i64 8 (ss s)))).put (some 47) (.slice (some x) (sgz s) cap)).put (some 48) (.pointer (some ⟨w1.heap.size, 7, none⟩))).put (some 49) (.int .i64 (cc s : Int))).put (some 50) (.pointer (some ⟨w1.heap.size, 1, none⟩))).put (some 51) (.int .i64 (ll s : Int))).put (some 52) (.int .i64 (W : Int))).put (some 53) (.int .i64 (P : Int))).put (some 54) (.int .i64 ((cc s : Int) + (P : Int)))).put (some 55) (.slice (some (x.add (cc s + P))) (sgz s - (cc s + P)) (cap - (cc s + P)))).put (some 56) (.tuple #[.slice (some ⟨gu, 0, none⟩) (kk s) (kk s), .bool true])).put (some 45) (.tuple #[.slice (some ⟨gu, 0, none⟩) (kk s) (kk s), .bool true])).put (some 57) (.slice (some ⟨gu, 0, none⟩) (kk s) (kk s))).put (some 58) (.bool true)).put (some 12) (.slice (some ⟨gu, 0, none⟩) (kk s) (kk s))).put (some 13) (.bool true))) ?_ ?_
      · refine wp_region_mids (C := fun w' => Blk w' w1.heap.size .i64 8 (ss s) 24) [0, 1, 2, 3, 4, 5, 6, 7, 8, 9] 6 (by kernel_rfl) (by kernel_rfl) (fun _ _ _ _ _ h => nomatch h.1) fs (by kernel_rfl) ?_
        simp only [opsAt, List.filterMap_cons, List.filterMap_nil, List.getElem?_toArray, List.getElem?_cons_succ, List.getElem?_cons_zero]
        change wpQuiet _ _ _ _ (_ :: _ :: _ :: _ :: _ :: _ :: _ :: _ :: _ :: _ :: []) _
        (refine BigFrame.wpQuiet_want rfl (fun K hK => ?_); refine quiet_load_s Tryd.underlying24 rfl iSet _ rfl _ rfl (fun w' hw' => hw') (hK _ ?_); clear hK K; simp only [Act.put, List.setIfInBounds_toArray, List.set_cons_zero, List.set_cons_succ])
        (first | go_big_quiet_skip | (go_big_quiet_want; go_big_quiet_op; first | go_big_quiet_on | (apply Exists.intro; refine ⟨fun _ _ => rfl, ?_⟩; go_big_quiet_on)))
        (first | go_big_quiet_skip | (go_big_quiet_want; go_big_quiet_op; first | go_big_quiet_on | (apply Exists.intro; refine ⟨fun _ _ => rfl, ?_⟩; go_big_quiet_on)))
        (refine BigFrame.wpQuiet_want rfl (fun K hK => ?_); refine quiet_load_int 3 _ rfl _ 7 rfl .i64 ((cc s : Int)) Tryd.isAgg3 (fun w' hw' => hw'.cellv 7 _ (by omega) (cc_ss s hs3)) (hK _ ?_); clear hK K; simp only [Act.put, List.setIfInBounds_toArray, List.set_cons_zero, List.set_cons_succ])
        (first | go_big_quiet_skip | (go_big_quiet_want; go_big_quiet_op; first | go_big_quiet_on | (apply Exists.intro; refine ⟨fun _ _ => rfl, ?_⟩; go_big_quiet_on)))
        (refine BigFrame.wpQuiet_want rfl (fun K hK => ?_); refine quiet_load_int 3 _ rfl _ 1 rfl .i64 ((ll s : Int)) Tryd.isAgg3 (fun w' hw' => hw'.cellv 1 _ (by omega) (ll_ss s hs3)) (hK _ ?_); clear hK K; simp only [Act.put, List.setIfInBounds_toArray, List.set_cons_zero, List.set_cons_succ])
        (first | go_big_quiet_skip | (go_big_quiet_want; go_big_quiet_op; first | go_big_quiet_on | (apply Exists.intro; refine ⟨fun _ _ => rfl, ?_⟩; go_big_quiet_on)))
        (first | go_big_quiet_skip | (go_big_quiet_want; go_big_quiet_op; first | go_big_quiet_on | (apply Exists.intro; refine ⟨fun _ _ => rfl, ?_⟩; go_big_quiet_on)))
        (first | go_big_quiet_skip | (go_big_quiet_want; go_big_quiet_op; first | go_big_quiet_on | (apply Exists.intro; refine ⟨fun _ _ => rfl, ?_⟩; go_big_quiet_on)))
        (first | go_big_quiet_skip | (go_big_quiet_want; go_big_quiet_op; first | go_big_quiet_on | (apply Exists.intro; refine ⟨fun _ _ => rfl, ?_⟩; go_big_quiet_on)))
        refine wpQuiet_nil ?_
        obtain ⟨Wd, hWd⟩ : ∃ Wd : World, Wd = { w4 with drawn := w4.drawn + 1 } := ⟨_, rfl⟩
        have hWs : Below w4.heap.size w4 Wd := by rw [hWd]; exact abv_drawn w4
        change wpAnyH _ _ _ _ _ _ _ _ { w4 with drawn := w4.drawn + 1 }
        rw [← hWd]
        have fs := fs.below hWs
        clear hWd
        refine wpAnyH_all (rs := [10]) (by kernel_rfl) (by decide) ?_
        intro i hi
        obtain rfl := mem_one hi
        refine wpOp_call _ rfl rfl 10 _ _ rfl (by kernel_rfl) #[.agg (arr .i64 8 (ss s)), .slice (some (x.add (cc s + P))) (sgz s - (cc s + P)) (cap - (cc s + P))] (by simp only [List.map_toArray, List.map_cons, List.map_nil]; rfl) ?_
        rw [show sgz s - (cc s + P) = om s + kk s from by omega]
        refine (unpackHints s (cap - (cc s + P)) (x.add (cc s + P)) (hby s b) Wd hs3 (HRH.out.below (hB4.trans (hWs.mono hB4.size))) (fun i hi => HB.out _ (by rw [HMM.out]; omega))).mono ?_
        rintro e w6 ⟨hd6, hb6⟩
        have hWs := belowChain hWs hb6 hWs.size
        have fs := fs.below hb6
        rcases hd6 with ⟨hok6, gu, rfl, hgu, hbu⟩ | ⟨hok6, rfl⟩
        · refine ⟨_, rfl, fs, ?_⟩
          refine wpAnyH_all (rs := [11]) (by kernel_rfl) (by decide) ?_
          intro i hi
          obtain rfl := mem_one hi
          refine wpOp_one _ rfl ?_
          simp only [List.getElem_toArray, List.getElem_cons_succ, List.getElem_cons_zero, Act.put, List.setIfInBounds_toArray, List.set_cons_zero, List.set_cons_succ]
          (first | go_big_quiet_skip | (go_big_quiet_want; go_big_quiet_op; first | go_big_quiet_on | (apply Exists.intro; refine ⟨fun _ _ => rfl, ?_⟩; go_big_quiet_on)))
          refine wpQuiet_nil ⟨fs, ?_⟩
          refine wpAnyH_all (rs := [12, 13]) (by kernel_rfl) (by decide) ?_
          intro i hi
          rcases mem_two hi with rfl | rfl
          · refine wpOp_one _ rfl ?_
            simp only [List.getElem_toArray, List.getElem_cons_succ, List.getElem_cons_zero]
            (first | go_big_quiet_skip | (go_big_quiet_want; go_big_quiet_op; first | go_big_quiet_on | (apply Exists.intro; refine ⟨fun _ _ => rfl, ?_⟩; go_big_quiet_on)))
            refine wpQuiet_nil ⟨fs, ?_⟩
            refine wpAnyH_all (rs := [13, 14]) (by kernel_rfl) (by decide) ?_
            intro i hi
            rcases mem_two hi with rfl | rfl
            · refine wpOp_one _ rfl ?_
              simp only [List.getElem_toArray, List.getElem_cons_succ, List.getElem_cons_zero]
              (first | go_big_quiet_skip | (go_big_quiet_want; go_big_quiet_op; first | go_big_quiet_on | (apply Exists.intro; refine ⟨fun _ _ => rfl, ?_⟩; go_big_quiet_on)))
              refine wpQuiet_nil ⟨fs, ?_⟩
              refine wpAnyH_all (rs := [14]) (by kernel_rfl) (by decide) ?_
              intro i hi
              obtain rfl := mem_one hi
              refine wpOp_assign _ rfl rfl _ rfl ⟨fs, ?_⟩
              refine wpAnyH_all (rs := [15]) (by kernel_rfl) (by decide) ?_
              intro i hi
              obtain rfl := mem_one hi
              refine wpOp_assign _ rfl rfl _ rfl ⟨fs, ?_⟩
              exact wpAnyH_done (by kernel_rfl) ⟨rfl, gu, hbu, hWs, by first | rfl | (simp [Act.put, Act.eval, go_sem])⟩ _
            · refine wpOp_assign _ rfl rfl _ rfl ⟨fs, ?_⟩
              refine wpAnyH_all (rs := [13]) (by kernel_rfl) (by decide) ?_
              intro i hi
              obtain rfl := mem_one hi
              refine wpOp_one _ rfl ?_
              simp only [List.getElem_toArray, List.getElem_cons_succ, List.getElem_cons_zero, Act.put, List.setIfInBounds_toArray, List.set_cons_zero, List.set_cons_succ]
              (first | go_big_quiet_skip | (go_big_quiet_want; go_big_quiet_op; first | go_big_quiet_on | (apply Exists.intro; refine ⟨fun _ _ => rfl, ?_⟩; go_big_quiet_on)))
              refine wpQuiet_nil ⟨fs, ?_⟩
              refine wpAnyH_all (rs := [15]) (by kernel_rfl) (by decide) ?_
              intro i hi
              obtain rfl := mem_one hi
              refine wpOp_assign _ rfl rfl _ rfl ⟨fs, ?_⟩
              exact wpAnyH_done (by kernel_rfl) ⟨rfl, gu, hbu, hWs, by first | rfl | (simp [Act.put, Act.eval, go_sem])⟩ _
          · refine wpOp_one _ rfl ?_
            simp only [List.getElem_toArray, List.getElem_cons_succ, List.getElem_cons_zero]
            (first | go_big_quiet_skip | (go_big_quiet_want; go_big_quiet_op; first | go_big_quiet_on | (apply Exists.intro; refine ⟨fun _ _ => rfl, ?_⟩; go_big_quiet_on)))
            refine wpQuiet_nil ⟨fs, ?_⟩
            refine wpAnyH_all (rs := [12]) (by kernel_rfl) (by decide) ?_
            intro i hi
            obtain rfl := mem_one hi
            refine wpOp_one _ rfl ?_
            simp only [List.getElem_toArray, List.getElem_cons_succ, List.getElem_cons_zero]
            (first | go_big_quiet_skip | (go_big_quiet_want; go_big_quiet_op; first | go_big_quiet_on | (apply Exists.intro; refine ⟨fun _ _ => rfl, ?_⟩; go_big_quiet_on)))
            refine wpQuiet_nil ⟨fs, ?_⟩
            refine wpAnyH_all (rs := [14]) (by kernel_rfl) (by decide) ?_
            intro i hi
            obtain rfl := mem_one hi
            refine wpOp_assign _ rfl rfl _ rfl ⟨fs, ?_⟩
            refine wpAnyH_all (rs := [15]) (by kernel_rfl) (by decide) ?_
            intro i hi
            obtain rfl := mem_one hi
            refine wpOp_assign _ rfl rfl _ rfl ⟨fs, ?_⟩
            exact wpAnyH_done (by kernel_rfl) ⟨rfl, gu, hbu, hWs, by first | rfl | (simp [Act.put, Act.eval, go_sem])⟩ _
        · exact absurd hok hok6
          
      rintro a' w7 ⟨gu, hbu, hb7, rfl⟩
      simp only [Act.put, List.setIfInBounds_toArray, List.set_cons_zero, List.set_cons_succ]
      have hB7 := belowChain hB4 hb7 hB4.size
      have fs := fs.below hb7
      have hco := fs.cellv 7 (cc s : Int) (by omega) (cc_ss s hs3)
      have hlo := fs.cellv 1 (ll s : Int) (by omega) (ll_ss s hs3)
      go_wp2_with fail
      have hB7s := hB7.size
      have hrd7 := hrd.below ((belowChain hb4' hb7 hb4'.size))
      refine (lwAlike ⟨g, 0, none⟩ x (cc s) c cap b b w7 hrd7 (fun j hj => (HR.out.below hB7) j (by omega)) (fun _ _ => rfl)).mono ?_
      rintro e w8 ⟨rfl, rfl⟩
      have hnl : (((ll s : Nat) : Int) != ((ll s : Nat) : Int)) = false := by simp
      have hbt7 := hbt.below (belowChain hb4' hb7 hb4'.size)
      have hmz7 := hmz.below (belowChain hb4' hb7 hb4'.size)
      go_wp2_with (first | (go_at_call 12; refine (lwSameHints (kk s) gh gu (kk s) (kk s) (fun r j => drow (hby s b) (om s) (kk s) (r * 256 + j)) (fun r j => decide (drow (hby s b) (om s) (kk s) (r * 256 + j) ≠ 0)) _ hk1 (fun r hr j hj => by rw [Addr.add_mid, Nat.zero_add]; exact hbt7.cell (by omega)) (fun r hr j hj => by rw [Addr.add_mid, Nat.zero_add]; exact hbu.cell (by omega)) (fun r _ j _ => by rcases drow01 (hby s b) (om s) (kk s) (r * 256 + j) with h | h <;> simp [hb, h])).mono ?_; rintro e w9 ⟨rfl, hb9⟩))
      have fs9 := fs.below hb9
      have hmz9 := Lib.hid (hmz7.below hb9)
      have hB9 := belowChain hB7 hb9 hB7s
      have hd1' : decide ((2147483647 : Int) < ((sgz s : Nat) : Int)) = false := by rw [decide_eq_false_iff_not]; omega
      try simp only [hd1']
      clear hd1' hbt7 hmz7 hrd7 hnl hbu hco hlo fs hc4 hb4' hb7 hb9 hbt hmz hrd hne
      go_loopw [91] (fun t wr => ∃ r : Nat, r ≤ ll s ∧ t = .int .i64 (r : Int) ∧ Below w9.heap.size w9 wr) (fun t _ => ll s - (intOf t).toNat)
      case atStart => exact ⟨0, by omega, rfl, Below.refl _ _⟩
      case round =>
        obtain ⟨r, hr, rfl, hbe⟩ := hrel
        have hBr := belowChain hB9 hbe hB9.size
        have hs0 := hbe.size
        have fsr := fs9.below hbe
        by_cases hlt : r < ll s
        · have hrow := Lib.hid ((hmz9.out.below hbe).rowAt r hlt)
          go_wp2_with (first | (with_reducible refine at_loadx 40 94 rfl ?_; refine wpList_load_at Tryd.underlying40 iU rfl _ rfl ⟨gz, r * 256, none⟩ rfl hrow.out ?_) | (with_reducible refine at_storex 40 15 _ rfl ?_; refine wpList_store_arr iU rfl _ _ rfl _ rfl rfl (Blk.new wr .u32 256 (fun _ => 0) 40 rfl) ?_))
          have f15 := (Blk.new wr .u32 256 (fun _ => 0) 40 rfl).row .u32 (zrow s b r)
          have hstep := below_setRow ((Below.refl wr.heap.size wr).alloc (Nat.le_refl _) (.cells (arr .u32 256 (fun _ => 0)) 40)) (g := wr.heap.size) (Nat.le_refl _) (arr .u32 256 (zrow s b r))
          have fsr := fsr.below hstep
          have hBr := belowChain hBr hstep (Nat.le_trans hB9.size hs0)
          obtain ⟨Q, hQe⟩ : ∃ Q, Q = r * W := ⟨_, rfl⟩
          have hQ : (r : Int) * ((W : Nat) : Int) = ((Q : Nat) : Int) := by rw [hQe]; simp
          have hQ1 : ((r : Int) + 1) * ((W : Nat) : Int) = ((Q : Nat) : Int) + ((W : Nat) : Int) := by rw [Int.add_mul, Int.one_mul, hQ]
          have hQP : Q + W ≤ P := by
            rw [hQe, HPE.out, ← Nat.succ_mul]
            exact Nat.mul_le_mul_right _ (by omega)
          have HQE := Lib.hid hQe; clear hQe
          refine wp_region_below (by kernel_rfl) (by kernel_rfl) ?_
          (refine BigFrame.wpQuiet_want rfl (fun K hK => ?_); refine quiet_load_arr Tryd.underlying40 iU _ rfl _ rfl (fun w' hw' => Blk.below (f15) hw') (hK _ ?_); clear hK K; simp only [Act.put, List.setIfInBounds_toArray, List.set_cons_zero, List.set_cons_succ])
          (first | go_big_quiet_skip | (go_big_quiet_want; go_big_quiet_op; first | go_big_quiet_on | (apply Exists.intro; refine ⟨fun _ _ => rfl, ?_⟩; go_big_quiet_on)))
          (first | go_big_quiet_skip | (go_big_quiet_want; go_big_quiet_op; first | go_big_quiet_on | (apply Exists.intro; refine ⟨fun _ _ => rfl, ?_⟩; go_big_quiet_on)))
          (refine BigFrame.wpQuiet_want rfl (fun K hK => ?_); refine quiet_load_int 3 _ rfl _ 7 rfl .i64 ((cc s : Int)) Tryd.isAgg3 (fun w' hw' => (Blk.below (fsr) hw').cellv 7 _ (by omega) (cc_ss s hs3)) (hK _ ?_); clear hK K; simp only [Act.put, List.setIfInBounds_toArray, List.set_cons_zero, List.set_cons_succ])
          (first | go_big_quiet_skip | (go_big_quiet_want; go_big_quiet_op; first | go_big_quiet_on | (apply Exists.intro; refine ⟨fun _ _ => rfl, ?_⟩; go_big_quiet_on)))
          (first | go_big_quiet_skip | (go_big_quiet_want; go_big_quiet_op; first | go_big_quiet_on | (apply Exists.intro; refine ⟨fun _ _ => rfl, ?_⟩; go_big_quiet_on)))
          (first | go_big_quiet_skip | (go_big_quiet_want; go_big_quiet_op; first | go_big_quiet_on | (apply Exists.intro; refine ⟨fun _ _ => rfl, ?_⟩; go_big_quiet_on)))
          (first | go_big_quiet_skip | (go_big_quiet_want; go_big_quiet_op; first | go_big_quiet_on | (apply Exists.intro; refine ⟨fun _ _ => rfl, ?_⟩; go_big_quiet_on)))
          (first | go_big_quiet_skip | (go_big_quiet_want; go_big_quiet_op; first | go_big_quiet_on | (apply Exists.intro; refine ⟨fun _ _ => rfl, ?_⟩; go_big_quiet_on)))
          (refine BigFrame.wpQuiet_want rfl (fun K hK => ?_); refine quiet_load_int 3 _ rfl _ 7 rfl .i64 ((cc s : Int)) Tryd.isAgg3 (fun w' hw' => (Blk.below (fsr) hw').cellv 7 _ (by omega) (cc_ss s hs3)) (hK _ ?_); clear hK K; simp only [Act.put, List.setIfInBounds_toArray, List.set_cons_zero, List.set_cons_succ])
          (first | go_big_quiet_skip | (go_big_quiet_want; go_big_quiet_op; first | go_big_quiet_on | (apply Exists.intro; refine ⟨fun _ _ => rfl, ?_⟩; go_big_quiet_on)))
          (first | go_big_quiet_skip | (go_big_quiet_want; go_big_quiet_op; first | go_big_quiet_on | (apply Exists.intro; refine ⟨fun _ _ => rfl, ?_⟩; go_big_quiet_on)))
          (first | go_big_quiet_skip | (go_big_quiet_want; go_big_quiet_op; first | go_big_quiet_on | (apply Exists.intro; refine ⟨fun _ _ => rfl, ?_⟩; go_big_quiet_on)))
          (first | go_big_quiet_skip | (go_big_quiet_want; go_big_quiet_op; first | go_big_quiet_on | (apply Exists.intro; refine ⟨fun _ _ => rfl, ?_⟩; go_big_quiet_on)))
          (first | go_big_quiet_skip | (go_big_quiet_want; go_big_quiet_op; first | go_big_quiet_on | (apply Exists.intro; refine ⟨fun _ _ => rfl, ?_⟩; go_big_quiet_on)))
          (first | go_big_quiet_skip | (go_big_quiet_want; go_big_quiet_op; first | go_big_quiet_on | (apply Exists.intro; refine ⟨fun _ _ => rfl, ?_⟩; go_big_quiet_on)))
          (first | go_big_quiet_skip | (go_big_quiet_want; go_big_quiet_op; first | go_big_quiet_on | (apply Exists.intro; refine ⟨fun _ _ => rfl, ?_⟩; go_big_quiet_on)))
          (refine BigFrame.wpQuiet_want rfl (fun K hK => ?_); refine quiet_load_int 3 _ rfl _ 4 rfl .i64 (ss s 4) Tryd.isAgg3 (fun w' hw' => (Blk.below (fsr) hw').cellv 4 _ (by omega) (rfl)) (hK _ ?_); clear hK K; simp only [Act.put, List.setIfInBounds_toArray, List.set_cons_zero, List.set_cons_succ])
          (first | go_big_quiet_skip | (go_big_quiet_want; go_big_quiet_op; first | go_big_quiet_on | (apply Exists.intro; refine ⟨fun _ _ => rfl, ?_⟩; go_big_quiet_on)))
          (first | go_big_quiet_skip | (go_big_quiet_want; go_big_quiet_op; first | go_big_quiet_on | (apply Exists.intro; refine ⟨fun _ _ => rfl, ?_⟩; go_big_quiet_on)))
          (refine BigFrame.wpQuiet_want rfl (fun K hK => ?_); refine quiet_load_int 3 _ rfl _ 4 rfl .i64 (ss s 4) Tryd.isAgg3 (fun w' hw' => (Blk.below (fsr) hw').cellv 4 _ (by omega) (rfl)) (hK _ ?_); clear hK K; simp only [Act.put, List.setIfInBounds_toArray, List.set_cons_zero, List.set_cons_succ])
          have HRQ : Hid (Rd .u8 w (x.add (cc s + Q)) W (fun j => b (cc s + r * (32 * dd s) + j))) := Lib.hid (by
            have h := Rd.sub1 HR.out (o := cc s + Q) (m := W) (by omega)
            intro j hj
            have h2 := h j hj
            have e1 : r * (32 * dd s) = Q := by rw [HQE.out, HW.out]
            rw [e1]
            exact h2)
          have hE1 : r * (32 * dd s) = Q := by rw [HQE.out, HW.out]
          have hBd := Lib.hid (show ∀ i, i < W → 0 ≤ b (cc s + r * (32 * dd s) + i) ∧ b (cc s + r * (32 * dd s) + i) < 256 from fun i hi => HB.out _ (by rw [hE1]; omega))
          have hS : (ss s 4 - 1) + ss s 4 = (blN s : Int) := by omega
          have hUF := fun (w' : World) (hw' : Below _ _ w') => spUnpackedFrom (x.add (cc s + Q)) W (cap - (cc s + Q)) (dd s) (blN s) (ss s 4 - 1) (ss s 4) (fun j => b (cc s + r * (32 * dd s) + j)) w' hS (blN_lt s hs3) (blN_dd s) (by omega) (by omega) (by omega) (by omega) hd1 HW.out (HRQ.out.below (hBr.trans (Below.mono hw' hBr.size))) hBd.out
          have hlE : cc s + (Q + W) - (cc s + Q) = W := by omega
          go_big_quiet_step ((intro hw'; go_at_call 14; exact Calls.in_below hw' (hUF _ hw')))
          go_big_quiet_step ((intro hw'; go_at_call 13; exact Calls.in_below hw' (lwIs _ _ _ (fun i _ => by unfold zrow uval; omega) (fun i _ => ⟨by omega, by unfold zrow uval; rw [hE1, ← HW.out]; omega⟩))))
          (first | go_big_quiet_skip | (go_big_quiet_want; go_big_quiet_op; first | go_big_quiet_on | (apply Exists.intro; refine ⟨fun _ _ => rfl, ?_⟩; go_big_quiet_on)))
          refine wpQuiet_nil ?_
          intro w3 hb3
          go_wp2_with fail
          go_roundw
          case rel => exact ⟨r + 1, by omega, by go_num, belowChain (belowChain hbe hstep hs0) hb3 (Nat.le_trans hs0 hstep.size)⟩
          case measure => simp [intOf]; omega
        · obtain rfl : r = ll s := by omega
          go_wp2_with fail
          go_ret
          exact ⟨rfl, hBr⟩
    · go_wp2_with (first | (with_reducible refine at_load 24 _ rfl ?_; refine wpList_load_s Tryd.underlying24 rfl iSet rfl _ rfl _ rfl (fs) ?_))
      refine (spSigSize s _ hs3).mono ?_
      rintro e w4 ⟨rfl, hb4⟩
      have fs := fs.below hb4
      have hB4 := belowChain hB3 hb4 hB3.size
      have hc4 := fs.cellv 4 (ss s 4) (by omega) rfl
      go_wp2_with fail
      refine (spBits (blN s) _ (blN_lt s hs3)).mono ?_
      rintro e w5 ⟨rfl, rfl⟩
      rw [blN_dd]
      go_wp2_with fail
      obtain ⟨W, hW⟩ : ∃ W, W = 32 * dd s := ⟨_, rfl⟩
      have hw : (32 : Int) * ((dd s : Nat) : Int) = ((W : Nat) : Int) := by omega
      rw [hw]
      clear hw
      have hW0 : 576 ≤ W ∧ W ≤ 640 := by omega
      have HW := Lib.hid hW; clear hW
      obtain ⟨P, hPe⟩ : ∃ P, P = ll s * W := ⟨_, rfl⟩
      have hP : ((ll s : Nat) : Int) * ((W : Nat) : Int) = ((P : Nat) : Int) := by rw [hPe]; simp
      have hP0 : P ≤ 4480 := by rw [hPe]; exact Nat.mul_le_mul hl1 hW0.2
      obtain ⟨hW0, hW1⟩ := hW0
      have hmm : mm s = cc s + P := by unfold mm; rw [hPe, HW.out]
      have hss : sgz s = mm s + (om s + kk s) := rfl
      have hs2 : cc s + P + (om s + kk s) ≤ sgz s := by omega
      have hs3' : sgz s ≤ cc s + P + (om s + kk s) := by omega
      have HMM := Lib.hid hmm; clear hmm hss
      have HPE := Lib.hid hPe; clear hPe
      have HRH : Hid (Rd .u8 w (x.add (cc s + P)) (om s + kk s) (hby s b)) := Lib.hid (by
        have h := Rd.sub1 HR.out (o := cc s + P) (m := om s + kk s) (by omega)
        intro j hj
        have h2 := h j hj
        unfold hby
        rw [HMM.out]
        exact h2)
      have hb4' := hb4
      clear hb4
      try simp only [Act.put]
      refine wp_region_viaA (fun A a' w' => Below w4.heap.size w4 w' ∧ a' = ((((((((((((((((A.put (some 46) (.agg (arr .i64 8 (ss s)))).put (some 47) (.slice (some x) (sgz s) cap)).put (some 48) (.pointer (some ⟨w1.heap.size, 7, none⟩))).put (some 49) (.int .i64 (cc s : Int))).put (some 50) (.pointer (some ⟨w1.heap.size, 1, none⟩))).put (some 51) (.int .i64 (ll s : Int))).put (some 52) (.int .i64 (W : Int))).put (some 53) (.int .i64 (P : Int))).put (some 54) (.int .i64 ((cc s : Int) + (P : Int)))).put (some 55) (.slice (some (x.add (cc s + P))) (sgz s - (cc s + P)) (cap - (cc s + P)))).put (some 56) (.tuple #[.slice none 0 0, .bool false])).put (some 45) (.tuple #[.slice none 0 0, .bool false])).put (some 57) (.slice none 0 0)).put (some 58) (.bool false)).put (some 12) (.slice none 0 0)).put (some 13) (.bool false))) ?_ ?_
      · refine wp_region_mids (C := fun w' => Blk w' w1.heap.size .i64 8 (ss s) 24) [0, 1, 2, 3, 4, 5, 6, 7, 8, 9] 6 (by kernel_rfl) (by kernel_rfl) (fun _ _ _ _ _ h => nomatch h.1) fs (by kernel_rfl) ?_
        simp only [opsAt, List.filterMap_cons, List.filterMap_nil, List.getElem?_toArray, List.getElem?_cons_succ, List.getElem?_cons_zero]
        change wpQuiet _ _ _ _ (_ :: _ :: _ :: _ :: _ :: _ :: _ :: _ :: _ :: _ :: []) _
        (refine BigFrame.wpQuiet_want rfl (fun K hK => ?_); refine quiet_load_s Tryd.underlying24 rfl iSet _ rfl _ rfl (fun w' hw' => hw') (hK _ ?_); clear hK K; simp only [Act.put, List.setIfInBounds_toArray, List.set_cons_zero, List.set_cons_succ])
        (first | go_big_quiet_skip | (go_big_quiet_want; go_big_quiet_op; first | go_big_quiet_on | (apply Exists.intro; refine ⟨fun _ _ => rfl, ?_⟩; go_big_quiet_on)))
        (first | go_big_quiet_skip | (go_big_quiet_want; go_big_quiet_op; first | go_big_quiet_on | (apply Exists.intro; refine ⟨fun _ _ => rfl, ?_⟩; go_big_quiet_on)))
        (refine BigFrame.wpQuiet_want rfl (fun K hK => ?_); refine quiet_load_int 3 _ rfl _ 7 rfl .i64 ((cc s : Int)) Tryd.isAgg3 (fun w' hw' => hw'.cellv 7 _ (by omega) (cc_ss s hs3)) (hK _ ?_); clear hK K; simp only [Act.put, List.setIfInBounds_toArray, List.set_cons_zero, List.set_cons_succ])
        (first | go_big_quiet_skip | (go_big_quiet_want; go_big_quiet_op; first | go_big_quiet_on | (apply Exists.intro; refine ⟨fun _ _ => rfl, ?_⟩; go_big_quiet_on)))
        (refine BigFrame.wpQuiet_want rfl (fun K hK => ?_); refine quiet_load_int 3 _ rfl _ 1 rfl .i64 ((ll s : Int)) Tryd.isAgg3 (fun w' hw' => hw'.cellv 1 _ (by omega) (ll_ss s hs3)) (hK _ ?_); clear hK K; simp only [Act.put, List.setIfInBounds_toArray, List.set_cons_zero, List.set_cons_succ])
        (first | go_big_quiet_skip | (go_big_quiet_want; go_big_quiet_op; first | go_big_quiet_on | (apply Exists.intro; refine ⟨fun _ _ => rfl, ?_⟩; go_big_quiet_on)))
        (first | go_big_quiet_skip | (go_big_quiet_want; go_big_quiet_op; first | go_big_quiet_on | (apply Exists.intro; refine ⟨fun _ _ => rfl, ?_⟩; go_big_quiet_on)))
        (first | go_big_quiet_skip | (go_big_quiet_want; go_big_quiet_op; first | go_big_quiet_on | (apply Exists.intro; refine ⟨fun _ _ => rfl, ?_⟩; go_big_quiet_on)))
        (first | go_big_quiet_skip | (go_big_quiet_want; go_big_quiet_op; first | go_big_quiet_on | (apply Exists.intro; refine ⟨fun _ _ => rfl, ?_⟩; go_big_quiet_on)))
        refine wpQuiet_nil ?_
        obtain ⟨Wd, hWd⟩ : ∃ Wd : World, Wd = { w4 with drawn := w4.drawn + 1 } := ⟨_, rfl⟩
        have hWs : Below w4.heap.size w4 Wd := by rw [hWd]; exact abv_drawn w4
        change wpAnyH _ _ _ _ _ _ _ _ { w4 with drawn := w4.drawn + 1 }
        rw [← hWd]
        have fs := fs.below hWs
        clear hWd
        refine wpAnyH_all (rs := [10]) (by kernel_rfl) (by decide) ?_
        intro i hi
        obtain rfl := mem_one hi
        refine wpOp_call _ rfl rfl 10 _ _ rfl (by kernel_rfl) #[.agg (arr .i64 8 (ss s)), .slice (some (x.add (cc s + P))) (sgz s - (cc s + P)) (cap - (cc s + P))] (by simp only [List.map_toArray, List.map_cons, List.map_nil]; rfl) ?_
        rw [show sgz s - (cc s + P) = om s + kk s from by omega]
        refine (unpackHints s (cap - (cc s + P)) (x.add (cc s + P)) (hby s b) Wd hs3 (HRH.out.below (hB4.trans (hWs.mono hB4.size))) (fun i hi => HB.out _ (by rw [HMM.out]; omega))).mono ?_
        rintro e w6 ⟨hd6, hb6⟩
        have hWs := belowChain hWs hb6 hWs.size
        have fs := fs.below hb6
        rcases hd6 with ⟨hok6, gu, rfl, hgu, hbu⟩ | ⟨hok6, rfl⟩
        · exact absurd hok6 hok
          
        · refine ⟨_, rfl, fs, ?_⟩
          refine wpAnyH_all (rs := [11]) (by kernel_rfl) (by decide) ?_
          intro i hi
          obtain rfl := mem_one hi
          refine wpOp_one _ rfl ?_
          simp only [List.getElem_toArray, List.getElem_cons_succ, List.getElem_cons_zero, Act.put, List.setIfInBounds_toArray, List.set_cons_zero, List.set_cons_succ]
          (first | go_big_quiet_skip | (go_big_quiet_want; go_big_quiet_op; first | go_big_quiet_on | (apply Exists.intro; refine ⟨fun _ _ => rfl, ?_⟩; go_big_quiet_on)))
          refine wpQuiet_nil ⟨fs, ?_⟩
          refine wpAnyH_all (rs := [12, 13]) (by kernel_rfl) (by decide) ?_
          intro i hi
          rcases mem_two hi with rfl | rfl
          · refine wpOp_one _ rfl ?_
            simp only [List.getElem_toArray, List.getElem_cons_succ, List.getElem_cons_zero]
            (first | go_big_quiet_skip | (go_big_quiet_want; go_big_quiet_op; first | go_big_quiet_on | (apply Exists.intro; refine ⟨fun _ _ => rfl, ?_⟩; go_big_quiet_on)))
            refine wpQuiet_nil ⟨fs, ?_⟩
            refine wpAnyH_all (rs := [13, 14]) (by kernel_rfl) (by decide) ?_
            intro i hi
            rcases mem_two hi with rfl | rfl
            · refine wpOp_one _ rfl ?_
              simp only [List.getElem_toArray, List.getElem_cons_succ, List.getElem_cons_zero]
              (first | go_big_quiet_skip | (go_big_quiet_want; go_big_quiet_op; first | go_big_quiet_on | (apply Exists.intro; refine ⟨fun _ _ => rfl, ?_⟩; go_big_quiet_on)))
              refine wpQuiet_nil ⟨fs, ?_⟩
              refine wpAnyH_all (rs := [14]) (by kernel_rfl) (by decide) ?_
              intro i hi
              obtain rfl := mem_one hi
              refine wpOp_assign _ rfl rfl _ rfl ⟨fs, ?_⟩
              refine wpAnyH_all (rs := [15]) (by kernel_rfl) (by decide) ?_
              intro i hi
              obtain rfl := mem_one hi
              refine wpOp_assign _ rfl rfl _ rfl ⟨fs, ?_⟩
              exact wpAnyH_done (by kernel_rfl) ⟨rfl, hWs, by first | rfl | (simp [Act.put, Act.eval, go_sem])⟩ _
            · refine wpOp_assign _ rfl rfl _ rfl ⟨fs, ?_⟩
              refine wpAnyH_all (rs := [13]) (by kernel_rfl) (by decide) ?_
              intro i hi
              obtain rfl := mem_one hi
              refine wpOp_one _ rfl ?_
              simp only [List.getElem_toArray, List.getElem_cons_succ, List.getElem_cons_zero, Act.put, List.setIfInBounds_toArray, List.set_cons_zero, List.set_cons_succ]
              (first | go_big_quiet_skip | (go_big_quiet_want; go_big_quiet_op; first | go_big_quiet_on | (apply Exists.intro; refine ⟨fun _ _ => rfl, ?_⟩; go_big_quiet_on)))
              refine wpQuiet_nil ⟨fs, ?_⟩
              refine wpAnyH_all (rs := [15]) (by kernel_rfl) (by decide) ?_
              intro i hi
              obtain rfl := mem_one hi
              refine wpOp_assign _ rfl rfl _ rfl ⟨fs, ?_⟩
              exact wpAnyH_done (by kernel_rfl) ⟨rfl, hWs, by first | rfl | (simp [Act.put, Act.eval, go_sem])⟩ _
          · refine wpOp_one _ rfl ?_
            simp only [List.getElem_toArray, List.getElem_cons_succ, List.getElem_cons_zero]
            (first | go_big_quiet_skip | (go_big_quiet_want; go_big_quiet_op; first | go_big_quiet_on | (apply Exists.intro; refine ⟨fun _ _ => rfl, ?_⟩; go_big_quiet_on)))
            refine wpQuiet_nil ⟨fs, ?_⟩
            refine wpAnyH_all (rs := [12]) (by kernel_rfl) (by decide) ?_
            intro i hi
            obtain rfl := mem_one hi
            refine wpOp_one _ rfl ?_
            simp only [List.getElem_toArray, List.getElem_cons_succ, List.getElem_cons_zero]
            (first | go_big_quiet_skip | (go_big_quiet_want; go_big_quiet_op; first | go_big_quiet_on | (apply Exists.intro; refine ⟨fun _ _ => rfl, ?_⟩; go_big_quiet_on)))
            refine wpQuiet_nil ⟨fs, ?_⟩
            refine wpAnyH_all (rs := [14]) (by kernel_rfl) (by decide) ?_
            intro i hi
            obtain rfl := mem_one hi
            refine wpOp_assign _ rfl rfl _ rfl ⟨fs, ?_⟩
            refine wpAnyH_all (rs := [15]) (by kernel_rfl) (by decide) ?_
            intro i hi
            obtain rfl := mem_one hi
            refine wpOp_assign _ rfl rfl _ rfl ⟨fs, ?_⟩
            exact wpAnyH_done (by kernel_rfl) ⟨rfl, hWs, by first | rfl | (simp [Act.put, Act.eval, go_sem])⟩ _
      rintro a' w7 ⟨hb7, rfl⟩
      simp only [Act.put, List.setIfInBounds_toArray, List.set_cons_zero, List.set_cons_succ]
      have hB7 := belowChain hB4 hb7 hB4.size
      have fs := fs.below hb7
      have hco := fs.cellv 7 (cc s : Int) (by omega) (cc_ss s hs3)
      have hlo := fs.cellv 1 (ll s : Int) (by omega) (ll_ss s hs3)
      go_wp2_with fail
      go_ret
      exact ⟨rfl, hB7⟩
  · have hne : ((len : Int) != ((sgz s : Nat) : Int)) = true := by simp; omega
    refine (implSigDecodeNo s len cap a zs _ hs3 (hp.below hB2) (he3.below hB2) (by omega) hl (isRow_le1 h hB2)).mono ?_
    rintro e w3 ⟨⟨v1, v2, v3, rfl⟩, hb3⟩
    have hB3 := belowChain hB2 hb3 hB2.size
    have fs := fs.below hb3
    go_wp2_with (first | (with_reducible refine at_load 24 _ rfl ?_; refine wpList_load_s Tryd.underlying24 rfl iSet rfl _ rfl _ rfl (fs) ?_))
    refine (spSigSize s _ hs3).mono ?_
    rintro e w4 ⟨rfl, hb4⟩
    go_wp2_with fail
    go_ret
    exact ⟨rfl, belowChain hB3 hb4 hB3.size⟩

end Go.Proofs.YtanfpnidlgejhaaDoor
