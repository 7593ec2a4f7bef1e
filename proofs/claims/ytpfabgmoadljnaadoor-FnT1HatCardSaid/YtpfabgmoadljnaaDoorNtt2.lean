/-
  The reference's transform, and the law of the transform.
-/
import Derived.Test.YtpfabgmoadljnaaDoorNtt
namespace Go.Proofs.YtpfabgmoadljnaaDoor
open Go.RowKit

def revTo (n k : Nat) : Nat := (List.range k).foldl (fun o j => 2 * o + n / 2 ^ j % 2) 0
theorem revTo_succ (n k : Nat) : revTo n (k + 1) = 2 * revTo n k + n / 2 ^ k % 2 := by
  unfold revTo
  rw [List.range_succ, List.foldl_append]
  rfl
theorem revTo_lt (n k : Nat) : revTo n k < 2 ^ k := by
  induction k with
  | zero => simp [revTo]
  | succ k ih => rw [revTo_succ, Nat.pow_succ]; omega
theorem revTo_8 (n : Nat) : revTo n 8 = rev8 n := rfl
theorem rev8_lt (n : Nat) : rev8 n < 256 := revTo_lt n 8
def rootsV : Bool := (List.range 256).all fun i => powq 64 1 1753 (2 * (rev8 i : Int) + 1) == rt i
set_option maxRecDepth 100000 in
theorem roots_v : rootsV = true := by decide +kernel
theorem root_v (i : Nat) (hi : i < 256) : powq 64 1 1753 (2 * (rev8 i : Int) + 1) = rt i := by
  have h := List.all_eq_true.1 roots_v i (List.mem_range.2 hi)
  simpa using h

set_option maxRecDepth 100000 in
set_option maxHeartbeats 1000000 in
theorem spReversed (i : Nat) (w : World) (hi : i < 256) :
    Calls Tryd.prog 39 #[.int .i64 (i : Int)] w fun e w' => e = .returned (.int .i64 (rev8 i : Int)) ∧ w = w' := by
  go_enter Tryd.func39, Tryd.ntmps39
  go_wp2_with fail
  go_loop [0, 3, 4] (fun n o t => ∃ k N O : Nat, k ≤ 8 ∧ t = .int .i64 (k : Int) ∧ n = .int .i64 (N : Int) ∧ o = .int .i64 (O : Int) ∧ Hid (N = i / 2 ^ k) ∧ Hid (O = revTo i k) ∧ N < 256 ∧ O < 256) (fun _ _ t => 8 - (intOf t).toNat)
  case atStart => exact ⟨0, i, 0, by omega, rfl, rfl, rfl, Lib.hid (by simp), Lib.hid rfl, hi, by omega⟩
  case round =>
    obtain ⟨k, N, O, hk, rfl, rfl, rfl, HN, HO, hN, hO⟩ := hrel
    by_cases hlt : k < 8
    · have hO2 : 2 * O + N % 2 < 256 := by
        have h1 := revTo_lt i (k + 1)
        rw [revTo_succ, ← HO.out, ← HN.out] at h1
        have h2 : 2 ^ (k + 1) ≤ 2 ^ 8 := Nat.pow_le_pow_right (by omega) (by omega)
        omega
      go_wp2_with fail
      go_round
      case rel => exact ⟨k + 1, N / 2, 2 * O + N % 2, by omega, by go_num, by go_num, by go_num, Lib.hid (by rw [HN.out, Nat.div_div_eq_div_mul, Nat.pow_succ]), Lib.hid (by rw [revTo_succ, ← HO.out, ← HN.out]), by omega, hO2⟩
      case measure => simp [intOf]; omega
    · obtain rfl : k = 8 := by omega
      go_wp2_with fail
      go_ret
      exact ⟨ret_int (by rw [← revTo_8, ← HO.out]), rfl⟩
theorem spRoot (i : Nat) (w : World) (hi : i < 256) :
    Calls Tryd.prog 26 #[.int .i64 (i : Int)] w fun e w' => e = .returned (.int .i64 (rt i)) ∧ w = w' := by
  have hr := rev8_lt i
  go_enter Tryd.func26, Tryd.ntmps26
  go_wp2_with fail
  refine (spReversed i _ hi).mono ?_
  rintro e w' ⟨rfl, rfl⟩
  go_wp2_with fail
  refine (spPower _ _ _ (by omega) (by omega) (by omega) (by omega)).mono ?_
  rintro e w' ⟨rfl, rfl⟩
  rw [root_v i hi]
  go_wp2_with fail
  go_ret
  exact ⟨rfl, rfl⟩

set_option maxRecDepth 100000 in
set_option maxHeartbeats 1000000 in
theorem spForward (f : Nat → Int) (w : World) (hf : ∀ i, i < 256 → 0 ≤ f i ∧ f i < 8380417) :
    Calls Tryd.prog 12 #[.agg (arr .i64 256 f)] w fun e w' => e = .returned (.agg (arr .i64 256 (nttF f))) ∧ Below w.heap.size w w' := by
  have HF := Lib.hid hf; clear hf
  go_enter Tryd.func12, Tryd.ntmps12
  go_wp2_with (first | (with_reducible refine at_store 25 _ _ rfl ?_; refine wpList_store_arr iP rfl _ _ rfl _ rfl rfl (Blk.new _ _ _ _ _ (by first | omega | (simp; done) | (simp; omega))) ?_))
  go_loopw [4] (fun t wr => ∃ i : Nat, i ≤ 256 ∧ t = .int .i64 (i : Int) ∧ Below w.heap.size w wr ∧ Blk wr (w.heap.size + 1 + 1) .i64 256 (fun j => if j < i then horner f (rt j) 256 else 0) 25 ∧ Blk wr (w.heap.size + 1) .i64 256 (fun _ => 0) 25 ∧ Blk wr w.heap.size .i64 256 f 25) (fun t _ => 256 - (intOf t).toNat)
  case atStart => exact ⟨0, by omega, rfl, below_setRow ((((Below.refl _ _).alloc (Nat.le_refl _) _).alloc (by first | omega | (simp; done) | (simp; omega)) _).alloc (by first | omega | (simp; done) | (simp; omega)) _) (by first | omega | (simp; done) | (simp; omega)) _, ((Blk.new _ _ _ _ _ (by first | omega | (simp; done) | (simp; omega))).row _ _).start _, ((Blk.new _ _ _ _ _ (by first | omega | (simp; done) | (simp; omega))).alloc _).rowOther _ _ (by first | omega | (simp; done) | (simp; omega)), (((Blk.new _ _ _ _ _ rfl).alloc _).alloc _).rowOther _ _ (by first | omega | (simp; done) | (simp; omega))⟩
  case round =>
    obtain ⟨i, hi, rfl, hbe, h2, h1, h0⟩ := hrel
    by_cases hlt : i < 256
    · go_wp2_with fail
      refine (spRoot i _ hlt).mono ?_
      rintro e w' ⟨rfl, rfl⟩
      have hr := rt_bd i
      obtain ⟨r, hre⟩ : ∃ r, r = rt i := ⟨_, rfl⟩
      rw [← hre] at hr
      rw [← hre]
      have HR := Lib.hid hre; clear hre
      obtain ⟨hr0, hr1⟩ := hr
      go_wp2_with fail
      go_loopw [6] (fun t ws => ∃ k : Nat, k ≤ 256 ∧ t = .int .i64 (255 - (k : Int)) ∧ Below w.heap.size w ws ∧ Blk ws (w.heap.size + 1 + 1) .i64 256 (fun j => if j < i then horner f (rt j) 256 else if j = i then horner f (rt i) k else 0) 25 ∧ Blk ws (w.heap.size + 1) .i64 256 (fun _ => 0) 25 ∧ Blk ws w.heap.size .i64 256 f 25) (fun t _ => (intOf t + 1).toNat)
      case atStart => exact ⟨0, by omega, rfl, hbe, h2.congr (fun j _ => by
        by_cases e : j < i
        · rw [if_pos e, if_pos e]
        · rw [if_neg e, if_neg e]; split <;> rfl), h1, h0⟩
      case round =>
        clear hbe h2 h1 h0
        obtain ⟨k, hk, rfl, hbe, h2, h1, h0⟩ := hrel
        by_cases hkl : k < 256
        · obtain ⟨J, hJ⟩ : ∃ J : Nat, J = 255 - k := ⟨_, rfl⟩
          have hJi : (255 : Int) - (k : Int) = (J : Int) := by omega
          have hJ2 : J < 256 := by omega
          rw [hJi]
          have hc2 := h2.cell hlt
          rw [if_neg (by omega), if_pos rfl] at hc2
          have hf2 := h2.frozen i
          have hc0 := h0.cell hJ2
          obtain ⟨hv0, hv1⟩ := HF.out J hJ2
          have hb := horner_bd f (rt i) k
          obtain ⟨v, hv⟩ : ∃ v, v = horner f (rt i) k := ⟨_, rfl⟩
          rw [← hv] at hc2 hb
          obtain ⟨hb0, hb1⟩ := hb
          obtain ⟨hp0, hp1⟩ := prod_lt v r 8380416 8380416 hb0 (by omega) hr0 (by omega)
          have HV := Lib.hid hv; clear hv
          have HJ := Lib.hid hJ; clear hJ
          go_wp2_with fail
          refine wp_region_drew_tail 12 (by kernel_rfl) (by kernel_rfl) ?_
          simp only [List.take_succ_cons, List.take_zero, List.drop_succ_cons, List.drop_zero]
          repeat (go_big_quiet_step (fail))
          refine wpQuiet_nil ?_
          intro _ hw'
          obtain ⟨nq, hw''⟩ := hw'
          subst hw''
          go_wp2_with fail
          go_roundw
          case rel => exact ⟨k + 1, by omega, by go_num, (below_drewM hbe _).setCell (by first | omega | (simp; done) | (simp; omega)) _, ((h2.drewN _).set i _).congr (fun j _ => by
              by_cases e : j = i
              · subst e; rw [if_pos rfl, if_neg (by omega), if_pos rfl, horner, ← HJ.out, ← HV.out, ← HR.out]
              · rw [if_neg e]; by_cases e2 : j < i
                · rw [if_pos e2, if_pos e2]
                · rw [if_neg e2, if_neg e2, if_neg e, if_neg e]), (h1.drewN _).other _ _ (by first | omega | (simp; done) | (simp; omega)), (h0.drewN _).other _ _ (by first | omega | (simp; done) | (simp; omega))⟩
          case measure => first | (simp [intOf]; done) | (simp [intOf]; omega)
        · obtain rfl : k = 256 := by omega
          go_wp2_with fail
          go_roundw
          case rel => exact ⟨i + 1, by omega, by go_num, hbe, h2.congr (fun j _ => by
              by_cases e : j < i
              · rw [if_pos e, if_pos (by omega)]
              · by_cases e2 : j = i
                · subst e2; rw [if_neg e, if_pos rfl, if_pos (by omega)]
                · rw [if_neg e, if_neg e2, if_neg (by omega)]), h1, h0⟩
          case measure => simp [intOf]; omega
    · obtain rfl : i = 256 := by omega
      have h2 : Blk wr (w.heap.size + 1 + 1) .i64 256 (nttF f) 25 := h2.congr fun j hj => by rw [if_pos hj, ← fwd_eq f j hj]
      go_wp2_with (first | (with_reducible refine at_load 25 _ rfl ?_; refine wpList_load_arr Tryd.underlying25 iP rfl _ rfl _ rfl (h2) ?_) | (with_reducible refine at_store 25 _ _ rfl ?_; refine wpList_store_arr iP rfl _ _ rfl _ rfl rfl (h1) ?_))
      exact bodyPost_ret (v := .agg (arr .i64 256 (nttF f))) (results_arr Tryd.underlying25 iP rfl _ _ _ rfl (h1.row _ _)) rfl ⟨rfl, below_setRow hbe (by first | omega | (simp; done) | (simp; omega)) _⟩

set_option maxRecDepth 100000 in
set_option maxHeartbeats 1000000 in
theorem zzToNTT (z : Nat → Int) (w : World) (hz : ∀ i, i < 256 → 0 ≤ z i ∧ z i < 8380417) (hg : GArr w 0 .u32 256 zetaV) :
    Calls Tryd.prog 24 #[.agg (arr .u32 256 z)] w fun e w' => e = .returned (.agg (arr .u32 256 (nttF z))) ∧ Below w.heap.size w w' := by
  go_enter Tryd.func24, Tryd.ntmps24
  go_wp2_with (first | (with_reducible refine at_load 50 _ rfl ?_; refine wpList_load_arr Tryd.underlying50 iR rfl _ rfl _ rfl ((Blk.new w _ _ _ _ rfl).alloc _) ?_))
  refine (nttW z _ hz ((hg.alloc _).alloc _)).mono ?_
  rintro e w1 ⟨rfl, hb1⟩
  have f0 := Blk.below (Blk.new (g := w.heap.size + 1) (w.alloc (.cells (arr .u32 256 z) 50)) .u32 256 (fun _ => 0) 48 (by first | omega | (simp; done) | (simp; omega))) hb1
  have hB1 := belowChain (((Below.refl w.heap.size w).alloc (Nat.le_refl _) (.cells (arr .u32 256 z) 50)).alloc (by first | omega | (simp; done) | (simp; omega)) (.cells (arr .u32 256 (fun _ => 0)) 48)) hb1 (by first | omega | (simp; done) | (simp; omega))
  go_wp2_with (first | (with_reducible refine at_store 48 _ _ rfl ?_; refine wpList_store_arr iN rfl _ _ rfl _ rfl rfl (f0) ?_))
  exact bodyPost_ret (v := .agg (arr .u32 256 (nttF z))) (results_arr Tryd.underlying48 iN rfl _ _ _ rfl (f0.row _ _)) rfl ⟨rfl, below_setRow hB1 (by first | omega | (simp; done) | (simp; omega)) _⟩

set_option maxRecDepth 100000 in
set_option maxHeartbeats 1000000 in
theorem implToNTT (z : Nat → Int) (w : World) (hz : ∀ i, i < 256 → 0 ≤ z i ∧ z i < 8380417) (hg : GArr w 0 .u32 256 zetaV) :
    Calls Tryd.prog 11 #[.agg (arr .u32 256 z)] w fun e w' => e = .returned (.agg (arr .u32 256 (nttF z))) ∧ Below w.heap.size w w' := by
  go_enter Tryd.func11, Tryd.ntmps11
  go_wp2_with (first | (with_reducible refine at_load 23 _ rfl ?_; refine wpList_load_arr Tryd.underlying23 iU rfl _ rfl _ rfl ((Blk.new w _ _ _ _ rfl).alloc _) ?_))
  refine (implRing z _).mono ?_
  rintro e w1 ⟨rfl, hb1⟩
  have f0 := Blk.below (Blk.new (g := w.heap.size + 1) (w.alloc (.cells (arr .u32 256 z) 23)) .u32 256 (fun _ => 0) 23 (by first | omega | (simp; done) | (simp; omega))) hb1
  have hB1 := belowChain (((Below.refl w.heap.size w).alloc (Nat.le_refl _) (.cells (arr .u32 256 z) 23)).alloc (by first | omega | (simp; done) | (simp; omega)) (.cells (arr .u32 256 (fun _ => 0)) 23)) hb1 (by first | omega | (simp; done) | (simp; omega))
  go_wp2_with fail
  refine (zzToNTT z _ hz (hg.below hB1)).mono ?_
  rintro e w2 ⟨rfl, hb2⟩
  have f0 := Blk.below f0 hb2
  have hB2 := belowChain hB1 hb2 hB1.size
  go_wp2_with fail
  refine (implOfTransform _ _).mono ?_
  rintro e w3 ⟨rfl, hb3⟩
  have f0 := Blk.below f0 hb3
  have hB3 := belowChain hB2 hb3 hB2.size
  go_wp2_with (first | (with_reducible refine at_store 23 _ _ rfl ?_; refine wpList_store_arr iU rfl _ _ rfl _ rfl rfl (f0) ?_))
  exact bodyPost_ret (v := .agg (arr .u32 256 (nttF z))) (results_arr Tryd.underlying23 iU rfl _ _ _ rfl (f0.row _ _)) rfl ⟨rfl, below_setRow hB3 (by first | omega | (simp; done) | (simp; omega)) _⟩

set_option maxRecDepth 100000 in
set_option maxHeartbeats 1000000 in
theorem walkFnToNTT (x : Nat → Int) (w : World) (hg : GArr w 0 .u32 256 zetaV) (hx : ∀ i, i < 256 → 0 ≤ x i ∧ x i < 4294967296) :
    Calls Tryd.prog 3 #[.agg (arr .u32 256 x)] w fun e w' => e = .returned (.bool true) ∧ Below w.heap.size w w' := by
  have HX := Lib.hid hx; clear hx
  have HG := Lib.hid hg; clear hg
  go_enter Tryd.func3, Tryd.ntmps3
  go_wp2_with (first | (with_reducible refine at_load 23 _ rfl ?_; refine wpList_load_arr Tryd.underlying23 iU rfl _ rfl _ rfl (Blk.new w _ _ _ _ rfl) ?_))
  refine (lwRaw x _ HX.out).mono ?_
  rintro e w1 ⟨rfl, hb1⟩
  have f0 := Blk.below (Blk.new w .u32 256 x 23 rfl) hb1
  have hB1 := belowChain ((Below.refl w.heap.size w).alloc (Nat.le_refl _) (.cells (arr .u32 256 x) 23)) hb1 (by first | omega | (simp; done) | (simp; omega))
  have hs1 := f0.lt
  clear hb1
  go_wp2_with (first | (with_reducible refine at_store 25 _ _ rfl ?_; refine wpList_store_arr iP rfl _ _ rfl _ rfl rfl (Blk.new _ _ _ _ _ rfl) ?_))
  have g0 := (f0.alloc (.cells (arr .i64 256 (fun _ => 0)) 25)).rowOther w1.heap.size (arr .i64 256 x) (by first | omega | (simp; done) | (simp; omega))
  have ga := (Blk.new w1 .i64 256 (fun _ => 0) 25 rfl).row .i64 x
  have hB2 := below_setRow (hB1.alloc (by first | omega | (simp; done) | (simp; omega)) (.cells (arr .i64 256 (fun _ => 0)) 25)) (g := w1.heap.size) (by first | omega | (simp; done) | (simp; omega)) (arr .i64 256 x)
  cases hrx : redB x with
  | false =>
    refine wp_region_below (by kernel_rfl) (by kernel_rfl) ?_
    repeat (first | go_big_quiet_skip | (go_big_quiet_want; go_big_quiet_op; first | go_big_quiet_on | (apply Exists.intro; refine ⟨fun _ _ => rfl, ?_⟩; go_big_quiet_on)))
    refine wpQuiet_nil ?_
    intro w3 hb3
    go_wp2_with fail
    go_ret
    exact ⟨rfl, belowChain hB2 hb3 (by first | omega | (simp; done) | (simp; omega))⟩
  | true =>
    have QX := Lib.hid (fun i (hi : i < 256) => And.intro (HX.out i hi).1 (redB_true hrx i hi))
    clear hrx
    refine wp_region_below (by kernel_rfl) (by kernel_rfl) ?_
    (first | go_big_quiet_skip | (go_big_quiet_want; go_big_quiet_op; first | go_big_quiet_on | (apply Exists.intro; refine ⟨fun _ _ => rfl, ?_⟩; go_big_quiet_on)))
    (first | go_big_quiet_skip | (go_big_quiet_want; go_big_quiet_op; first | go_big_quiet_on | (apply Exists.intro; refine ⟨fun _ _ => rfl, ?_⟩; go_big_quiet_on)))
    (first | go_big_quiet_skip | (go_big_quiet_want; go_big_quiet_op; first | go_big_quiet_on | (apply Exists.intro; refine ⟨fun _ _ => rfl, ?_⟩; go_big_quiet_on)))
    (refine BigFrame.wpQuiet_want rfl (fun K hK => ?_); refine quiet_load_arr Tryd.underlying23 iU _ rfl _ rfl (fun w' hw' => Blk.below (g0) hw') (hK _ ?_); clear hK K; simp only [Act.put, List.setIfInBounds_toArray, List.set_cons_zero, List.set_cons_succ])
    go_big_quiet_step ((intro hw'; go_at_call 11; exact Calls.in_below hw' (implToNTT x _ QX.out ((HG.out.below hB2).below hw'))))
    (refine BigFrame.wpQuiet_want rfl (fun K hK => ?_); refine quiet_load_arr Tryd.underlying25 iP _ rfl _ rfl (fun w' hw' => Blk.below (ga) hw') (hK _ ?_); clear hK K; simp only [Act.put, List.setIfInBounds_toArray, List.set_cons_zero, List.set_cons_succ])
    go_big_quiet_step ((intro hw'; go_at_call 12; exact Calls.in_below hw' (spForward x _ QX.out)))
    go_big_quiet_step ((intro hw'; go_at_call 10; exact Calls.in_below hw' (lwIsRaw _ _ _ (fun i _ => by have := nttF_bd x i; omega) (fun i _ => rfl))))
    (first | go_big_quiet_skip | (go_big_quiet_want; go_big_quiet_op; first | go_big_quiet_on | (apply Exists.intro; refine ⟨fun _ _ => rfl, ?_⟩; go_big_quiet_on)))
    (first | go_big_quiet_skip | (go_big_quiet_want; go_big_quiet_op; first | go_big_quiet_on | (apply Exists.intro; refine ⟨fun _ _ => rfl, ?_⟩; go_big_quiet_on)))
    refine wpQuiet_nil ?_
    intro w2 hb2
    go_wp2_with fail
    go_ret
    exact ⟨rfl, belowChain hB2 hb2 (by first | omega | (simp; done) | (simp; omega))⟩


def zetaL : List Int := (List.range 256).map zetaV
theorem zetaL_len : zetaL.length = 256 := by unfold zetaL; rw [List.length_map, List.length_range]
theorem zetaL_get (i : Nat) (hi : i < 256) : zetaL.getD i 0 = zetaV i := by
  unfold zetaL
  rw [List.getD_eq_getElem?_getD, List.getElem?_map, List.getElem?_range hi, Option.map_some, Option.getD_some]
theorem garr_len {w : World} {g n m : Nat} {z y : Nat → Int} (h : GArr w g .u32 n z) (e : n = m) (he : ∀ i, i < m → z i = y i) : GArr w g .u32 m y := by
  subst e
  obtain ⟨t, fr, h⟩ := h
  exact ⟨t, fr, by rw [h, arr_congr he]⟩
theorem zeta_of {w : World} {g : Nat} (h : GArr w g .u32 zetaL.length (fun i => zetaL.getD i 0)) : GArr w g .u32 256 zetaV := garr_len h zetaL_len zetaL_get

end Go.Proofs.YtpfabgmoadljnaaDoor
