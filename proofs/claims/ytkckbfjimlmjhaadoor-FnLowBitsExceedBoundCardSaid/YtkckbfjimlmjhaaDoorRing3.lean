/-
  Rounding of whole polynomials, the second part: the rests' bound, hints made, hints used.
-/
import Derived.Test.YtkckbfjimlmjhaaDoorRing2
namespace Go.Proofs.YtkckbfjimlmjhaaDoor
open Go.RowKit

def nst (m c : Int) : Int := if (if m < c then c else m) < -c then -c else (if m < c then c else m)
/-- The greatest magnitude of the first k numbers. -/
def topTo (f : Nat → Int) : Nat → Int
  | 0 => 0
  | k + 1 => nst (topTo f k) (f k)
theorem nst_le (m c b : Int) : b ≤ nst m c ↔ b ≤ m ∨ b ≤ max c (-c) := by
  unfold nst
  split <;> split <;> omega
theorem topTo_le (f : Nat → Int) (b : Int) (k : Nat) : b ≤ topTo f k ↔ b ≤ 0 ∨ ∃ i, i < k ∧ b ≤ max (f i) (-f i) := by
  induction k with
  | zero => simp [topTo]
  | succ k ih =>
    rw [topTo, nst_le, ih]
    constructor
    · rintro ((h | ⟨i, hi, h⟩) | h)
      · exact .inl h
      · exact .inr ⟨i, by omega, h⟩
      · exact .inr ⟨k, by omega, h⟩
    · rintro (h | ⟨i, hi, h⟩)
      · exact .inl (.inl h)
      · by_cases e : i = k
        · subst e; exact .inr h
        · exact .inl (.inr ⟨i, by omega, h⟩)
theorem topTo_bd (f : Nat → Int) (k : Nat) (hf : ∀ i, i < k → -261888 ≤ f i ∧ f i ≤ 261888) : 0 ≤ topTo f k ∧ topTo f k ≤ 261888 := by
  induction k with
  | zero => simp [topTo]
  | succ k ih =>
    obtain ⟨h1, h2⟩ := hf k (by omega)
    have := ih (fun i hi => hf i (by omega))
    rw [topTo]
    unfold nst
    split <;> split <;> omega
theorem abs_max (x : Int) : (if 0 ≤ x then x else -x) = max x (-x) := by split <;> omega
theorem mag_nn (c : Int) : 0 ≤ max c (-c) := by omega

set_option maxRecDepth 100000 in
set_option maxHeartbeats 1000000 in
theorem lowExceed (s : Nat) (x : Nat → Int) (b : Int) (w : World) (hs : s < 3) (hx : ∀ i, i < 256 → 0 ≤ x i ∧ x i < 8380417) (b0 : 0 ≤ b) (b1 : b < 4294967296) :
    Calls Tryd.prog 35 #[.agg (arr .u32 256 x), .int .u32 b, .agg (arr .i64 8 (ps s))] w fun e w' => e = .returned (.bool (decide (b ≤ topTo (fun i => decLo (mred (x i)) (ss s 5)) 256))) ∧ Below w.heap.size w w' := by
  have HX := Lib.hid hx; clear hx
  have h3 : s = 0 ∨ s = 1 ∨ s = 2 := by omega
  clear hs
  rcases h3 with rfl | rfl | rfl
  · have hg := Blk.cellv (Blk.new (g := w.heap.size + 1) (w.alloc (.cells (arr .u32 256 x) 53)) .i64 8 (ps 0) 63 (by first | omega | (simp; done) | (simp; omega))) 4 88 (by omega) rfl
    go_enter Tryd.func35, Tryd.ntmps35
    go_wp2_with fail
    clear hg
    go_loopw [35] (fun i wr => ∃ k : Nat, k ≤ 256 ∧ i = .int .i64 k ∧ Hid (∀ j, j < k → max (decLo (mred (x j)) 95232) (-decLo (mred (x j)) 95232) < b) ∧ Below w.heap.size w wr ∧ Blk wr w.heap.size .u32 256 x 53) (fun i _ => 256 - (intOf i).toNat)
    case atStart => exact ⟨0, by omega, rfl, Lib.hid (fun j hj => by omega), (((Below.refl w.heap.size w).alloc (by first | omega | (simp; done) | (simp; omega)) _).alloc (by first | omega | (simp; done) | (simp; omega)) _), ((Blk.new _ _ _ _ _ (by first | omega | (simp; done) | (simp; omega))).alloc _)⟩
    case round =>
      obtain ⟨k, hk, rfl, hall, hb, h0⟩ := hrel
      by_cases hlt : k < 256
      · have hc0 := h0.cell hlt
        obtain ⟨hx0, hx1⟩ := HX.out k hlt
        obtain ⟨hl0, hl1⟩ := decLo88_bd (mred (x k)) (mred_lo _) (mred_hi _)
        by_cases hbd : b ≤ max (decLo (mred (x k)) 95232) (-decLo (mred (x k)) 95232)
        · go_wp2_with (first | (go_at_call 45; refine (decompose88 _ _ hx0 (by omega)).mono ?_; rintro e w' ⟨rfl, rfl⟩) | (go_at_call 44; refine (ctAbs _ _ (by omega) (by omega)).mono ?_; rintro e w' ⟨rfl, rfl⟩; rw [abs_max]))
          go_ret
          refine ⟨ret_bool ?_, hb⟩
          symm
          rw [decide_eq_true_iff, topTo_le]
          exact .inr ⟨k, hlt, hbd⟩
        · go_wp2_with (first | (go_at_call 45; refine (decompose88 _ _ hx0 (by omega)).mono ?_; rintro e w' ⟨rfl, rfl⟩) | (go_at_call 44; refine (ctAbs _ _ (by omega) (by omega)).mono ?_; rintro e w' ⟨rfl, rfl⟩; rw [abs_max]))
          go_roundw
          case rel => exact ⟨k + 1, by omega, by go_num, Lib.hid (fun j hj => by
            by_cases e : j = k
            · subst e; omega
            · exact hall.out j (by omega)), hb, h0⟩
          case measure => simp [intOf]; omega
      · obtain rfl : k = 256 := by omega
        go_wp2_with fail
        go_ret
        refine ⟨ret_bool ?_, hb⟩
        symm
        rw [decide_eq_false_iff_not, topTo_le]
        rintro (h | ⟨i, hi, h⟩)
        · have h1 := hall.out 0 (by omega)
          have h2 := mag_nn (decLo (mred (x 0)) 95232)
          omega
        · have h1 := hall.out i hi
          have h3 : b ≤ max (decLo (mred (x i)) 95232) (-decLo (mred (x i)) 95232) := h
          omega
  · have hg := Blk.cellv (Blk.new (g := w.heap.size + 1) (w.alloc (.cells (arr .u32 256 x) 53)) .i64 8 (ps 1) 63 (by first | omega | (simp; done) | (simp; omega))) 4 32 (by omega) rfl
    go_enter Tryd.func35, Tryd.ntmps35
    go_wp2_with fail
    clear hg
    go_loopw [18] (fun i wr => ∃ k : Nat, k ≤ 256 ∧ i = .int .i64 k ∧ Hid (∀ j, j < k → max (decLo (mred (x j)) 261888) (-decLo (mred (x j)) 261888) < b) ∧ Below w.heap.size w wr ∧ Blk wr w.heap.size .u32 256 x 53) (fun i _ => 256 - (intOf i).toNat)
    case atStart => exact ⟨0, by omega, rfl, Lib.hid (fun j hj => by omega), (((Below.refl w.heap.size w).alloc (by first | omega | (simp; done) | (simp; omega)) _).alloc (by first | omega | (simp; done) | (simp; omega)) _), ((Blk.new _ _ _ _ _ (by first | omega | (simp; done) | (simp; omega))).alloc _)⟩
    case round =>
      obtain ⟨k, hk, rfl, hall, hb, h0⟩ := hrel
      by_cases hlt : k < 256
      · have hc0 := h0.cell hlt
        obtain ⟨hx0, hx1⟩ := HX.out k hlt
        obtain ⟨hl0, hl1⟩ := decLo32_bd (mred (x k)) (mred_lo _) (mred_hi _)
        by_cases hbd : b ≤ max (decLo (mred (x k)) 261888) (-decLo (mred (x k)) 261888)
        · go_wp2_with (first | (go_at_call 43; refine (decompose32 _ _ hx0 (by omega)).mono ?_; rintro e w' ⟨rfl, rfl⟩) | (go_at_call 44; refine (ctAbs _ _ (by omega) (by omega)).mono ?_; rintro e w' ⟨rfl, rfl⟩; rw [abs_max]))
          go_ret
          refine ⟨ret_bool ?_, hb⟩
          symm
          rw [decide_eq_true_iff, topTo_le]
          exact .inr ⟨k, hlt, hbd⟩
        · go_wp2_with (first | (go_at_call 43; refine (decompose32 _ _ hx0 (by omega)).mono ?_; rintro e w' ⟨rfl, rfl⟩) | (go_at_call 44; refine (ctAbs _ _ (by omega) (by omega)).mono ?_; rintro e w' ⟨rfl, rfl⟩; rw [abs_max]))
          go_roundw
          case rel => exact ⟨k + 1, by omega, by go_num, Lib.hid (fun j hj => by
            by_cases e : j = k
            · subst e; omega
            · exact hall.out j (by omega)), hb, h0⟩
          case measure => simp [intOf]; omega
      · obtain rfl : k = 256 := by omega
        go_wp2_with fail
        go_ret
        refine ⟨ret_bool ?_, hb⟩
        symm
        rw [decide_eq_false_iff_not, topTo_le]
        rintro (h | ⟨i, hi, h⟩)
        · have h1 := hall.out 0 (by omega)
          have h2 := mag_nn (decLo (mred (x 0)) 261888)
          omega
        · have h1 := hall.out i hi
          have h3 : b ≤ max (decLo (mred (x i)) 261888) (-decLo (mred (x i)) 261888) := h
          omega
  · have hg := Blk.cellv (Blk.new (g := w.heap.size + 1) (w.alloc (.cells (arr .u32 256 x) 53)) .i64 8 (ps 2) 63 (by first | omega | (simp; done) | (simp; omega))) 4 32 (by omega) rfl
    go_enter Tryd.func35, Tryd.ntmps35
    go_wp2_with fail
    clear hg
    go_loopw [18] (fun i wr => ∃ k : Nat, k ≤ 256 ∧ i = .int .i64 k ∧ Hid (∀ j, j < k → max (decLo (mred (x j)) 261888) (-decLo (mred (x j)) 261888) < b) ∧ Below w.heap.size w wr ∧ Blk wr w.heap.size .u32 256 x 53) (fun i _ => 256 - (intOf i).toNat)
    case atStart => exact ⟨0, by omega, rfl, Lib.hid (fun j hj => by omega), (((Below.refl w.heap.size w).alloc (by first | omega | (simp; done) | (simp; omega)) _).alloc (by first | omega | (simp; done) | (simp; omega)) _), ((Blk.new _ _ _ _ _ (by first | omega | (simp; done) | (simp; omega))).alloc _)⟩
    case round =>
      obtain ⟨k, hk, rfl, hall, hb, h0⟩ := hrel
      by_cases hlt : k < 256
      · have hc0 := h0.cell hlt
        obtain ⟨hx0, hx1⟩ := HX.out k hlt
        obtain ⟨hl0, hl1⟩ := decLo32_bd (mred (x k)) (mred_lo _) (mred_hi _)
        by_cases hbd : b ≤ max (decLo (mred (x k)) 261888) (-decLo (mred (x k)) 261888)
        · go_wp2_with (first | (go_at_call 43; refine (decompose32 _ _ hx0 (by omega)).mono ?_; rintro e w' ⟨rfl, rfl⟩) | (go_at_call 44; refine (ctAbs _ _ (by omega) (by omega)).mono ?_; rintro e w' ⟨rfl, rfl⟩; rw [abs_max]))
          go_ret
          refine ⟨ret_bool ?_, hb⟩
          symm
          rw [decide_eq_true_iff, topTo_le]
          exact .inr ⟨k, hlt, hbd⟩
        · go_wp2_with (first | (go_at_call 43; refine (decompose32 _ _ hx0 (by omega)).mono ?_; rintro e w' ⟨rfl, rfl⟩) | (go_at_call 44; refine (ctAbs _ _ (by omega) (by omega)).mono ?_; rintro e w' ⟨rfl, rfl⟩; rw [abs_max]))
          go_roundw
          case rel => exact ⟨k + 1, by omega, by go_num, Lib.hid (fun j hj => by
            by_cases e : j = k
            · subst e; omega
            · exact hall.out j (by omega)), hb, h0⟩
          case measure => simp [intOf]; omega
      · obtain rfl : k = 256 := by omega
        go_wp2_with fail
        go_ret
        refine ⟨ret_bool ?_, hb⟩
        symm
        rw [decide_eq_false_iff_not, topTo_le]
        rintro (h | ⟨i, hi, h⟩)
        · have h1 := hall.out 0 (by omega)
          have h2 := mag_nn (decLo (mred (x 0)) 261888)
          omega
        · have h1 := hall.out i hi
          have h3 : b ≤ max (decLo (mred (x i)) 261888) (-decLo (mred (x i)) 261888) := h
          omega

set_option maxRecDepth 100000 in
set_option maxHeartbeats 1000000 in
theorem zzLowExceed (s : Nat) (x : Nat → Int) (b : Int) (w : World) (hs : s < 3) (hp : Par w) (hx : ∀ i, i < 256 → 0 ≤ x i ∧ x i < 8380417) (b0 : 0 ≤ b) (b1 : b < 4294967296) :
    Calls Tryd.prog 28 #[.int .i64 (nm s), .agg (arr .u32 256 x), .int .u32 b] w fun e w' => e = .returned (.bool (decide (b ≤ topTo (fun i => decLo (mred (x i)) (ss s 5)) 256))) ∧ Below w.heap.size w w' := by
  have HX := Lib.hid hx; clear hx
  go_enter Tryd.func28, Tryd.ntmps28
  go_wp2_with fail
  refine wp_region_below (by kernel_rfl) (by kernel_rfl) ?_
  (refine BigFrame.wpQuiet_want rfl (fun K hK => ?_); refine quiet_load_arr Tryd.underlying53 iR _ rfl _ rfl (fun w' hw' => Blk.below ((Blk.new _ _ _ _ _ (by first | omega | (simp; done) | (simp; omega)))) hw') (hK _ ?_); clear hK K; simp only [Act.put, List.setIfInBounds_toArray, List.set_cons_zero, List.set_cons_succ])
  (first | go_big_quiet_skip | (go_big_quiet_want; go_big_quiet_op; first | go_big_quiet_on | (apply Exists.intro; refine ⟨fun _ _ => rfl, ?_⟩; go_big_quiet_on)))
  (first | go_big_quiet_skip | (go_big_quiet_want; go_big_quiet_op; first | go_big_quiet_on | (apply Exists.intro; refine ⟨fun _ _ => rfl, ?_⟩; go_big_quiet_on)))
  go_big_quiet_step ((intro hw'; go_at_call 32; exact Calls.in_below hw' (zzSet s _ hs ((hp.alloc _).below hw'))))
  go_big_quiet_step ((intro hw'; go_at_call 35; exact Calls.in_below hw' (lowExceed s x b _ hs HX.out b0 b1)))
  (first | go_big_quiet_skip | (go_big_quiet_want; go_big_quiet_op; first | go_big_quiet_on | (apply Exists.intro; refine ⟨fun _ _ => rfl, ?_⟩; go_big_quiet_on)))
  refine wpQuiet_nil ?_
  intro w2 hb2
  go_wp2_with fail
  go_ret
  exact ⟨rfl, belowChain ((Below.refl w.heap.size w).alloc (by first | omega | (simp; done) | (simp; omega)) _) hb2 (by first | omega | (simp; done) | (simp; omega))⟩
set_option maxRecDepth 100000 in
set_option maxHeartbeats 1000000 in
theorem implLowExceed (s : Nat) (x : Nat → Int) (b : Int) (w : World) (hs : s < 3) (hp : Par w) (hx : ∀ i, i < 256 → 0 ≤ x i ∧ x i < 8380417) (b0 : 0 ≤ b) (b1 : b < 4294967296) :
    Calls Tryd.prog 17 #[.int .i64 (nm s), .agg (arr .u32 256 x), .int .u32 b] w fun e w' => e = .returned (.bool (decide (b ≤ topTo (fun i => decLo (mred (x i)) (ss s 5)) 256))) ∧ Below w.heap.size w w' := by
  have HX := Lib.hid hx; clear hx
  go_enter Tryd.func17, Tryd.ntmps17
  go_wp2_with (first | (with_reducible refine at_load 23 _ rfl ?_; refine wpList_load_arr Tryd.underlying23 iU rfl _ rfl _ rfl ((Blk.new _ _ _ _ _ (by first | omega | (simp; done) | (simp; omega)))) ?_))
  refine (implRing x _).mono ?_
  rintro e w1 ⟨rfl, hb1⟩
  go_wp2_with fail
  refine (zzLowExceed s x b _ hs ((hp.alloc _).below hb1) HX.out b0 b1).mono ?_
  rintro e w2 ⟨rfl, hb2⟩
  go_wp2_with fail
  go_ret
  exact ⟨rfl, belowChain (belowChain ((Below.refl w.heap.size w).alloc (by first | omega | (simp; done) | (simp; omega)) _) hb1 (by first | omega | (simp; done) | (simp; omega))) hb2 (Nat.le_trans (by first | omega | (simp; done) | (simp; omega)) hb1.size)⟩

set_option maxRecDepth 100000 in
set_option maxHeartbeats 1000000 in
theorem walkFnLowBitsExceedBound (n : Int) (x : Nat → Int) (b : Int) (w : World) (hp : Par w) (n0 : 0 ≤ n) (n1 : n < 256) (hx : ∀ i, i < 256 → 0 ≤ x i ∧ x i < 4294967296) (b0 : 0 ≤ b) (b1 : b < 4294967296) :
    Calls Tryd.prog 6 #[.int .u8 n, .agg (arr .u32 256 x), .int .u32 b] w fun e w' => e = .returned (.bool true) ∧ Below w.heap.size w w' := by
  have Hx := Lib.hid hx; clear hx
  obtain ⟨s, hs⟩ : ∃ s : Nat, (s : Int) = n % 3 := ⟨(n % 3).toNat, by omega⟩
  have hs3 : s < 3 := by omega
  go_enter Tryd.func6, Tryd.ntmps6
  go_wp2_with fail
  refine (lwSet _ s _ n0 n1 hs).mono ?_
  rintro e w1 ⟨rfl, hb1⟩
  clear hs
  have fx := Blk.below (Blk.new (g := w.heap.size) w .u32 256 x 23 (by first | omega | (simp; done) | (simp; omega))) hb1
  have hB1 := belowChain ((Below.refl w.heap.size w).alloc (by first | omega | (simp; done) | (simp; omega)) (.cells (arr .u32 256 x) 23)) hb1 (by first | omega | (simp; done) | (simp; omega))
  have hlx := fx.lt
  clear hb1
  go_wp2_with (first | (with_reducible refine at_store 25 _ _ rfl ?_; refine wpList_store_arr iSet rfl _ _ rfl _ rfl rfl (Blk.zeros8 _ _ rfl) ?_) | (with_reducible refine at_load 23 _ rfl ?_; refine wpList_load_arr Tryd.underlying23 iU rfl _ rfl _ rfl ((fx.alloc _).rowOther _ _ (by first | omega | (simp; done) | (simp; omega))) ?_))
  refine (lwPlain x _ Hx.out).mono ?_
  rintro e w2 ⟨rfl, hb2⟩
  have fx := Blk.below ((fx.alloc (.cells #[.int .i64 0, .int .i64 0, .int .i64 0, .int .i64 0, .int .i64 0, .int .i64 0, .int .i64 0, .int .i64 0] 25)).rowOther w1.heap.size (arr .i64 8 (ss s)) (by first | omega | (simp; done) | (simp; omega))) hb2
  have fs := Blk.below ((Blk.zeros8 w1 25 rfl).row .i64 (ss s)) hb2
  have hB2 := belowChain (below_setRow (hB1.alloc (by first | omega | (simp; done) | (simp; omega)) (.cells #[.int .i64 0, .int .i64 0, .int .i64 0, .int .i64 0, .int .i64 0, .int .i64 0, .int .i64 0, .int .i64 0] 25)) (g := w1.heap.size) (by first | omega | (simp; done) | (simp; omega)) (arr .i64 8 (ss s))) hb2 (by first | omega | (simp; done) | (simp; omega))
  have hls := fs.lt
  clear hb2 hB1

  have fx := ((fx.alloc (.cells (arr .i64 256 (fun _ => 0)) 29)).rowOther w2.heap.size (arr .i64 256 (fun i => mred (x i))) (by first | omega | (simp; done) | (simp; omega)))
  have fs := ((fs.alloc (.cells (arr .i64 256 (fun _ => 0)) 29)).rowOther w2.heap.size (arr .i64 256 (fun i => mred (x i))) (by first | omega | (simp; done) | (simp; omega)))
  have fa := (Blk.new w2 .i64 256 (fun _ => 0) 29 rfl).row .i64 (fun i => mred (x i))
  have hB3 := below_setRow (hB2.alloc (by first | omega | (simp; done) | (simp; omega)) (.cells (arr .i64 256 (fun _ => 0)) 29)) (g := w2.heap.size) (by first | omega | (simp; done) | (simp; omega)) (arr .i64 256 (fun i => mred (x i)))
  cases hrx : redB x with
  | false =>
    go_wp2_with (first | (with_reducible refine at_store 29 _ _ rfl ?_; refine wpList_store_arr iP rfl _ _ rfl _ rfl rfl (Blk.new _ _ _ _ _ rfl) ?_))
    go_ret
    exact ⟨rfl, hB3⟩
  | true =>
    have QX := Lib.hid (fun i (hi : i < 256) => And.intro (Hx.out i hi).1 (redB_true hrx i hi))
    clear hrx
    have FB := Lib.hid (fun i (hi : i < 256) => decLo_bd s (mred (x i)) hs3 (mred_lo _) (mred_hi _))
    go_wp2_with (first | (with_reducible refine at_store 29 _ _ rfl ?_; refine wpList_store_arr iP rfl _ _ rfl _ rfl rfl (Blk.new _ _ _ _ _ rfl) ?_))
    go_loopw [12, 11] (fun i m wr => ∃ (k : Nat) (t : Int), k ≤ 256 ∧ i = .int .i64 k ∧ m = .int .i64 t ∧ 0 ≤ t ∧ t ≤ 261888 ∧ Hid (t = topTo (fun i => decLo (mred (x i)) (ss s 5)) k) ∧ Below w.heap.size w wr ∧ Blk wr w2.heap.size .i64 256 (fun i => mred (x i)) 29 ∧ Blk wr w1.heap.size .i64 8 (ss s) 25 ∧ Blk wr w.heap.size .u32 256 x 23) (fun i _ _ => 256 - (intOf i).toNat)
    case atStart => exact ⟨0, 0, by omega, rfl, rfl, by omega, by omega, Lib.hid rfl, hB3, fa, fs, fx⟩
    case round =>
      obtain ⟨k, t, hk, rfl, rfl, ht0, ht1, ht, hb, h1, h0, hx⟩ := hrel
      by_cases hlt : k < 256
      · have hc1 := h1.cell hlt
        have hc0 := h0.cellv 5 _ (by omega) rfl
        have hm0 := mred_lo (x k)
        have hm1 := mred_hi (x k)
        obtain ⟨hd0, hd1⟩ := decLo_bd s _ hs3 hm0 hm1
        go_wp2_with fail
        go_quiet ((first | (go_at_call 10; exact Calls.quiet_eq (spDecomposeS s _ _ hs3 hm0 (by omega)))))
        go_wp2_with fail
        go_roundw
        case rel =>
          have hn : topTo (fun i => decLo (mred (x i)) (ss s 5)) (k + 1) = nst t (decLo (mred (x k)) (ss s 5)) := by rw [topTo, ← ht.out]
          obtain ⟨hn0, hn1⟩ := topTo_bd (fun i => decLo (mred (x i)) (ss s 5)) (k + 1) (fun i hi => FB.out i (by omega))
          exact ⟨k + 1, topTo (fun i => decLo (mred (x i)) (ss s 5)) (k + 1), by omega, by go_num, by rw [hn]; rfl, hn0, hn1, Lib.hid rfl, below_drewM hb _, h1.drewN _, h0.drewN _, hx.drewN _⟩
        case measure => simp [intOf]; omega
      · obtain rfl : k = 256 := by omega
        go_wp2_with (first | (with_reducible refine at_load 23 _ rfl ?_; refine wpList_load_arr Tryd.underlying23 iU rfl _ rfl _ rfl (hx) ?_))
        refine (implLowExceed s x b _ hs3 (hp.below hb) QX.out b0 b1).mono ?_
        rintro e w3 ⟨rfl, hb3⟩
        rw [← ht.out]
        go_wp2_with fail
        go_ret
        exact ⟨by first | rfl | exact ret_bool (by simp), belowChain hb hb3 hb.size⟩

end Go.Proofs.YtkckbfjimlmjhaaDoor
