/-
  Rounding of whole polynomials: the program's functions that take a parameter set, and their laws.
-/
import Derived.Test.YtkckbfjimlmjhaaDoorRing
import Derived.Test.YtkckbfjimlmjhaaDoorSets
namespace Go.Proofs.YtkckbfjimlmjhaaDoor
open Go.RowKit

def mm (s : Nat) : Int := if s = 0 then 44 else 16
theorem gam0 : ss 0 5 = 95232 := rfl
theorem gam1 : ss 1 5 = 261888 := rfl
theorem gam2 : ss 2 5 = 261888 := rfl
theorem decHi_bd (s : Nat) (x : Int) (hs : s < 3) (h0 : 0 ≤ x) (h1 : x < 8380417) : 0 ≤ decHi x (ss s 5) ∧ decHi x (ss s 5) ≤ 43 := by
  have h3 : s = 0 ∨ s = 1 ∨ s = 2 := by omega
  rcases h3 with rfl | rfl | rfl
  · exact decHi88_bd x h0 h1
  · have := decHi32_bd x h0 h1; rw [gam1]; omega
  · have := decHi32_bd x h0 h1; rw [gam2]; omega
theorem decLo_bd (s : Nat) (x : Int) (hs : s < 3) (h0 : 0 ≤ x) (h1 : x < 8380417) : -261888 ≤ decLo x (ss s 5) ∧ decLo x (ss s 5) ≤ 261888 := by
  have h3 : s = 0 ∨ s = 1 ∨ s = 2 := by omega
  rcases h3 with rfl | rfl | rfl
  · have := decLo88_bd x h0 h1; rw [gam0]; omega
  · exact decLo32_bd x h0 h1
  · exact decLo32_bd x h0 h1

theorem spDecomposeS (s : Nat) (a : Int) (w : World) (hs : s < 3) (a0 : 0 ≤ a) (a1 : a < 4294967296) :
    Calls Tryd.prog 10 #[.int .i64 a, .int .i64 (ss s 5)] w fun e w' => e = .returned (.tuple #[.int .i64 (decHi a (ss s 5)), .int .i64 (decLo a (ss s 5))]) ∧ w = w' := by
  have h3 : s = 0 ∨ s = 1 ∨ s = 2 := by omega
  rcases h3 with rfl | rfl | rfl
  · exact spDecompose a 95232 w a0 a1 (by omega) (by omega) (dec88_nn a a0)
  · exact spDecompose a 261888 w a0 a1 (by omega) (by omega) (dec32_nn a a0)
  · exact spDecompose a 261888 w a0 a1 (by omega) (by omega) (dec32_nn a a0)

set_option maxRecDepth 100000 in
set_option maxHeartbeats 1000000 in
theorem highBitsP (s : Nat) (x : Nat → Int) (w : World) (hs : s < 3) (hx : ∀ i, i < 256 → 0 ≤ x i ∧ x i < 8380417) :
    Calls Tryd.prog 31 #[.agg (arr .u32 256 x), .agg (arr .i64 8 (ps s))] w fun e w' => e = .returned (.agg (arr .u8 256 fun i => decHi (mred (x i)) (ss s 5))) ∧ Below w.heap.size w w' := by
  have HX := Lib.hid hx; clear hx
  have h3 : s = 0 ∨ s = 1 ∨ s = 2 := by omega
  clear hs
  rcases h3 with rfl | rfl | rfl
  · have hg := Blk.cellv (((Blk.new (g := w.heap.size + 1) (w.alloc (.cells (arr .u32 256 x) 53)) .i64 8 (ps 0) 63 (by first | omega | (simp; done) | (simp; omega))).alloc (.cells (arr .u8 256 (fun _ => 0)) 32)).alloc (.cells (arr .u8 256 (fun _ => 0)) 32)) 4 88 (by omega) rfl
    go_enter Tryd.func31, Tryd.ntmps31
    go_wp2_with fail
    clear hg
    go_loopw [26] (fun i wr => ∃ k : Nat, k ≤ 256 ∧ i = .int .i64 k ∧ Below w.heap.size w wr ∧ Blk wr (w.heap.size + 1 + 1 + 1) .u8 256 (fun j => if j < k then decHi (mred (x j)) 95232 else 0) 32 ∧ Blk wr (w.heap.size + 1 + 1) .u8 256 (fun _ => 0) 32 ∧ Blk wr w.heap.size .u32 256 x 53) (fun i _ => 256 - (intOf i).toNat)
    case atStart => exact ⟨0, by omega, rfl, (((((Below.refl w.heap.size w).alloc (by first | omega | (simp; done) | (simp; omega)) _).alloc (by first | omega | (simp; done) | (simp; omega)) _).alloc (by first | omega | (simp; done) | (simp; omega)) _).alloc (by first | omega | (simp; done) | (simp; omega)) _), (Blk.new _ _ _ _ _ (by first | omega | (simp; done) | (simp; omega))).start _, ((Blk.new _ _ _ _ _ (by first | omega | (simp; done) | (simp; omega))).alloc _), ((((Blk.new _ _ _ _ _ (by first | omega | (simp; done) | (simp; omega))).alloc _).alloc _).alloc _)⟩
    case round =>
      obtain ⟨k, hk, rfl, hb, h3, h2, h0⟩ := hrel
      by_cases hlt : k < 256
      · have hc3 := h3.cell hlt
        have hf := h3.frozen k
        have hc0 := h0.cell hlt
        obtain ⟨hx0, hx1⟩ := HX.out k hlt
        go_wp2_with (first | (go_at_call 37; refine (fromMont _ _ hx0 (by omega)).mono ?_; rintro e w' ⟨rfl, rfl⟩) | (go_at_call 38; refine (highBits88 _ _ (mred_lo _) (mred_hi _)).mono ?_; rintro e w' ⟨rfl, rfl⟩))
        go_roundw
        case rel => exact ⟨k + 1, by omega, by go_num, hb.setCell (by first | omega | (simp; done) | (simp; omega)) _, Blk.fill (f := fun j => decHi (mred (x j)) 95232) h3, h2.other _ _ (by first | omega | (simp; done) | (simp; omega)), h0.other _ _ (by first | omega | (simp; done) | (simp; omega))⟩
        case measure => simp [intOf]; omega
      · obtain rfl : k = 256 := by omega
        have h3 := h3.full
        go_wp2_with (first | (with_reducible refine at_load 32 _ rfl ?_; refine wpList_load_arr Tryd.underlying32 iB rfl _ rfl _ rfl (h3) ?_) | (with_reducible refine at_store 32 _ _ rfl ?_; refine wpList_store_arr iB rfl _ _ rfl _ rfl rfl (h2) ?_))
        exact bodyPost_ret (v := .agg (arr .u8 256 fun i => decHi (mred (x i)) 95232)) (results_arr Tryd.underlying32 iB rfl _ _ _ rfl (h2.row _ _)) rfl ⟨rfl, below_setRow hb (by first | omega | (simp; done) | (simp; omega)) _⟩
  · have hg := Blk.cellv (((Blk.new (g := w.heap.size + 1) (w.alloc (.cells (arr .u32 256 x) 53)) .i64 8 (ps 1) 63 (by first | omega | (simp; done) | (simp; omega))).alloc (.cells (arr .u8 256 (fun _ => 0)) 32)).alloc (.cells (arr .u8 256 (fun _ => 0)) 32)) 4 32 (by omega) rfl
    go_enter Tryd.func31, Tryd.ntmps31
    go_wp2_with fail
    clear hg
    go_loopw [13] (fun i wr => ∃ k : Nat, k ≤ 256 ∧ i = .int .i64 k ∧ Below w.heap.size w wr ∧ Blk wr (w.heap.size + 1 + 1 + 1) .u8 256 (fun j => if j < k then decHi (mred (x j)) 261888 else 0) 32 ∧ Blk wr (w.heap.size + 1 + 1) .u8 256 (fun _ => 0) 32 ∧ Blk wr w.heap.size .u32 256 x 53) (fun i _ => 256 - (intOf i).toNat)
    case atStart => exact ⟨0, by omega, rfl, (((((Below.refl w.heap.size w).alloc (by first | omega | (simp; done) | (simp; omega)) _).alloc (by first | omega | (simp; done) | (simp; omega)) _).alloc (by first | omega | (simp; done) | (simp; omega)) _).alloc (by first | omega | (simp; done) | (simp; omega)) _), (Blk.new _ _ _ _ _ (by first | omega | (simp; done) | (simp; omega))).start _, ((Blk.new _ _ _ _ _ (by first | omega | (simp; done) | (simp; omega))).alloc _), ((((Blk.new _ _ _ _ _ (by first | omega | (simp; done) | (simp; omega))).alloc _).alloc _).alloc _)⟩
    case round =>
      obtain ⟨k, hk, rfl, hb, h3, h2, h0⟩ := hrel
      by_cases hlt : k < 256
      · have hc3 := h3.cell hlt
        have hf := h3.frozen k
        have hc0 := h0.cell hlt
        obtain ⟨hx0, hx1⟩ := HX.out k hlt
        go_wp2_with (first | (go_at_call 37; refine (fromMont _ _ hx0 (by omega)).mono ?_; rintro e w' ⟨rfl, rfl⟩) | (go_at_call 36; refine (highBits32 _ _ (mred_lo _) (mred_hi _)).mono ?_; rintro e w' ⟨rfl, rfl⟩))
        go_roundw
        case rel => exact ⟨k + 1, by omega, by go_num, hb.setCell (by first | omega | (simp; done) | (simp; omega)) _, Blk.fill (f := fun j => decHi (mred (x j)) 261888) h3, h2.other _ _ (by first | omega | (simp; done) | (simp; omega)), h0.other _ _ (by first | omega | (simp; done) | (simp; omega))⟩
        case measure => simp [intOf]; omega
      · obtain rfl : k = 256 := by omega
        have h3 := h3.full
        go_wp2_with (first | (with_reducible refine at_load 32 _ rfl ?_; refine wpList_load_arr Tryd.underlying32 iB rfl _ rfl _ rfl (h3) ?_) | (with_reducible refine at_store 32 _ _ rfl ?_; refine wpList_store_arr iB rfl _ _ rfl _ rfl rfl (h2) ?_))
        exact bodyPost_ret (v := .agg (arr .u8 256 fun i => decHi (mred (x i)) 261888)) (results_arr Tryd.underlying32 iB rfl _ _ _ rfl (h2.row _ _)) rfl ⟨rfl, below_setRow hb (by first | omega | (simp; done) | (simp; omega)) _⟩
  · have hg := Blk.cellv (((Blk.new (g := w.heap.size + 1) (w.alloc (.cells (arr .u32 256 x) 53)) .i64 8 (ps 2) 63 (by first | omega | (simp; done) | (simp; omega))).alloc (.cells (arr .u8 256 (fun _ => 0)) 32)).alloc (.cells (arr .u8 256 (fun _ => 0)) 32)) 4 32 (by omega) rfl
    go_enter Tryd.func31, Tryd.ntmps31
    go_wp2_with fail
    clear hg
    go_loopw [13] (fun i wr => ∃ k : Nat, k ≤ 256 ∧ i = .int .i64 k ∧ Below w.heap.size w wr ∧ Blk wr (w.heap.size + 1 + 1 + 1) .u8 256 (fun j => if j < k then decHi (mred (x j)) 261888 else 0) 32 ∧ Blk wr (w.heap.size + 1 + 1) .u8 256 (fun _ => 0) 32 ∧ Blk wr w.heap.size .u32 256 x 53) (fun i _ => 256 - (intOf i).toNat)
    case atStart => exact ⟨0, by omega, rfl, (((((Below.refl w.heap.size w).alloc (by first | omega | (simp; done) | (simp; omega)) _).alloc (by first | omega | (simp; done) | (simp; omega)) _).alloc (by first | omega | (simp; done) | (simp; omega)) _).alloc (by first | omega | (simp; done) | (simp; omega)) _), (Blk.new _ _ _ _ _ (by first | omega | (simp; done) | (simp; omega))).start _, ((Blk.new _ _ _ _ _ (by first | omega | (simp; done) | (simp; omega))).alloc _), ((((Blk.new _ _ _ _ _ (by first | omega | (simp; done) | (simp; omega))).alloc _).alloc _).alloc _)⟩
    case round =>
      obtain ⟨k, hk, rfl, hb, h3, h2, h0⟩ := hrel
      by_cases hlt : k < 256
      · have hc3 := h3.cell hlt
        have hf := h3.frozen k
        have hc0 := h0.cell hlt
        obtain ⟨hx0, hx1⟩ := HX.out k hlt
        go_wp2_with (first | (go_at_call 37; refine (fromMont _ _ hx0 (by omega)).mono ?_; rintro e w' ⟨rfl, rfl⟩) | (go_at_call 36; refine (highBits32 _ _ (mred_lo _) (mred_hi _)).mono ?_; rintro e w' ⟨rfl, rfl⟩))
        go_roundw
        case rel => exact ⟨k + 1, by omega, by go_num, hb.setCell (by first | omega | (simp; done) | (simp; omega)) _, Blk.fill (f := fun j => decHi (mred (x j)) 261888) h3, h2.other _ _ (by first | omega | (simp; done) | (simp; omega)), h0.other _ _ (by first | omega | (simp; done) | (simp; omega))⟩
        case measure => simp [intOf]; omega
      · obtain rfl : k = 256 := by omega
        have h3 := h3.full
        go_wp2_with (first | (with_reducible refine at_load 32 _ rfl ?_; refine wpList_load_arr Tryd.underlying32 iB rfl _ rfl _ rfl (h3) ?_) | (with_reducible refine at_store 32 _ _ rfl ?_; refine wpList_store_arr iB rfl _ _ rfl _ rfl rfl (h2) ?_))
        exact bodyPost_ret (v := .agg (arr .u8 256 fun i => decHi (mred (x i)) 261888)) (results_arr Tryd.underlying32 iB rfl _ _ _ rfl (h2.row _ _)) rfl ⟨rfl, below_setRow hb (by first | omega | (simp; done) | (simp; omega)) _⟩

set_option maxRecDepth 100000 in
set_option maxHeartbeats 1000000 in
theorem zzHighBits (s : Nat) (x : Nat → Int) (w : World) (hs : s < 3) (hp : Par w) (hx : ∀ i, i < 256 → 0 ≤ x i ∧ x i < 8380417) :
    Calls Tryd.prog 23 #[.int .i64 (nm s), .agg (arr .u32 256 x)] w fun e w' => e = .returned (.agg (arr .u8 256 fun i => decHi (mred (x i)) (ss s 5))) ∧ Below w.heap.size w w' := by
  have HX := Lib.hid hx; clear hx
  go_enter Tryd.func23, Tryd.ntmps23
  go_wp2_with fail
  refine wp_region_below_tail 4 (by kernel_rfl) (by kernel_rfl) ?_
  simp only [List.take_succ_cons, List.take_zero, List.drop_succ_cons, List.drop_zero]
  (refine BigFrame.wpQuiet_want rfl (fun K hK => ?_); refine quiet_load_arr Tryd.underlying53 iR _ rfl _ rfl (fun w' hw' => Blk.below (((Blk.new _ _ _ _ _ (by first | omega | (simp; done) | (simp; omega))).alloc _)) hw') (hK _ ?_); clear hK K; simp only [Act.put, List.setIfInBounds_toArray, List.set_cons_zero, List.set_cons_succ])
  (first | go_big_quiet_skip | (go_big_quiet_want; go_big_quiet_op; first | go_big_quiet_on | (apply Exists.intro; refine ⟨fun _ _ => rfl, ?_⟩; go_big_quiet_on)))
  go_big_quiet_step ((intro hw'; go_at_call 32; exact Calls.in_below hw' (zzSet s _ hs (((hp.alloc _).alloc _).below hw'))))
  go_big_quiet_step ((intro hw'; go_at_call 31; exact Calls.in_below hw' (highBitsP s x _ hs HX.out)))
  refine wpQuiet_nil ?_
  intro w2 hb2
  have hr := Blk.below (Blk.new (g := w.heap.size + 1) _ .u8 256 (fun _ => 0) 32 (by first | omega | (simp; done) | (simp; omega))) hb2
  have hB := belowChain (((Below.refl w.heap.size w).alloc (by first | omega | (simp; done) | (simp; omega)) _).alloc (by first | omega | (simp; done) | (simp; omega)) _) hb2 (by first | omega | (simp; done) | (simp; omega))
  go_wp2_with (first | (with_reducible refine at_store 32 _ _ rfl ?_; refine wpList_store_arr iB rfl _ _ rfl _ rfl rfl (hr) ?_))
  exact bodyPost_ret (v := .agg (arr .u8 256 fun i => decHi (mred (x i)) (ss s 5))) (results_arr Tryd.underlying32 iB rfl _ _ _ rfl (hr.row _ _)) rfl ⟨rfl, below_setRow hB (by first | omega | (simp; done) | (simp; omega)) _⟩

set_option maxRecDepth 100000 in
set_option maxHeartbeats 1000000 in
theorem implHighBits (s : Nat) (x : Nat → Int) (w : World) (hs : s < 3) (hp : Par w) (hx : ∀ i, i < 256 → 0 ≤ x i ∧ x i < 8380417) :
    Calls Tryd.prog 9 #[.int .i64 (nm s), .agg (arr .u32 256 x)] w fun e w' => e = .returned (.agg (arr .u8 256 fun i => decHi (mred (x i)) (ss s 5))) ∧ Below w.heap.size w w' := by
  have HX := Lib.hid hx; clear hx
  go_enter Tryd.func9, Tryd.ntmps9
  go_wp2_with (first | (with_reducible refine at_load 23 _ rfl ?_; refine wpList_load_arr Tryd.underlying23 iU rfl _ rfl _ rfl (((Blk.new _ _ _ _ _ (by first | omega | (simp; done) | (simp; omega))).alloc _)) ?_))
  refine (implRing x _).mono ?_
  rintro e w1 ⟨rfl, hb1⟩
  go_wp2_with fail
  refine (zzHighBits s x _ hs (((hp.alloc _).alloc _).below hb1) HX.out).mono ?_
  rintro e w2 ⟨rfl, hb2⟩
  have hr1 := Blk.below (Blk.new (g := w.heap.size + 1) _ .u8 256 (fun _ => 0) 32 (by first | omega | (simp; done) | (simp; omega))) hb1
  have hr := Blk.below hr1 hb2
  have hB := belowChain (belowChain (((Below.refl w.heap.size w).alloc (by first | omega | (simp; done) | (simp; omega)) _).alloc (by first | omega | (simp; done) | (simp; omega)) _) hb1 (by first | omega | (simp; done) | (simp; omega))) hb2 (Nat.le_trans (by first | omega | (simp; done) | (simp; omega)) hb1.size)
  go_wp2_with (first | (with_reducible refine at_store 32 _ _ rfl ?_; refine wpList_store_arr iB rfl _ _ rfl _ rfl rfl (hr) ?_))
  exact bodyPost_ret (v := .agg (arr .u8 256 fun i => decHi (mred (x i)) (ss s 5))) (results_arr Tryd.underlying32 iB rfl _ _ _ rfl (hr.row _ _)) rfl ⟨rfl, below_setRow hB (by first | omega | (simp; done) | (simp; omega)) _⟩

set_option maxRecDepth 100000 in
set_option maxHeartbeats 1000000 in
theorem walkFnHighBits (n : Int) (x : Nat → Int) (w : World) (hp : Par w) (n0 : 0 ≤ n) (n1 : n < 256) (hx : ∀ i, i < 256 → 0 ≤ x i ∧ x i < 4294967296) :
    Calls Tryd.prog 3 #[.int .u8 n, .agg (arr .u32 256 x)] w fun e w' => e = .returned (.bool true) ∧ Below w.heap.size w w' := by
  have Hx := Lib.hid hx; clear hx
  obtain ⟨s, hs⟩ : ∃ s : Nat, (s : Int) = n % 3 := ⟨(n % 3).toNat, by omega⟩
  have hs3 : s < 3 := by omega
  go_enter Tryd.func3, Tryd.ntmps3
  go_wp2_with fail
  refine (lwSet _ s _ n0 n1 hs).mono ?_
  rintro e w1 ⟨rfl, hb1⟩
  clear hs
  have fx := Blk.below (Blk.new (g := w.heap.size) w .u32 256 x 23 (by first | omega | (simp; done) | (simp; omega))) hb1
  have hB1 := belowChain ((Below.refl w.heap.size w).alloc (by first | omega | (simp; done) | (simp; omega)) (.cells (arr .u32 256 x) 23)) hb1 (by first | omega | (simp; done) | (simp; omega))
  have hlx := fx.lt
  clear hb1
  go_wp2_with (first | (with_reducible refine at_store 25 _ _ rfl ?_; refine wpList_store_arr iSet rfl _ _ rfl _ rfl rfl (Blk.zeros8 _ _ rfl) ?_) | (with_reducible refine at_load 23 _ rfl ?_; refine wpList_load_arr Tryd.underlying23 iU rfl _ rfl _ rfl ((fx.alloc _).rowOther _ _ (by first | omega | (simp; done) | (simp; omega))) ?_))
  refine (lwPlain x _ Hx.out).mono ?_
  rintro e w2 ⟨rfl, hb2⟩
  have fx := Blk.below ((fx.alloc (.cells #[.int .i64 0, .int .i64 0, .int .i64 0, .int .i64 0, .int .i64 0, .int .i64 0, .int .i64 0, .int .i64 0] 25)).rowOther w1.heap.size (arr .i64 8 (ss s)) (by first | omega | (simp; done) | (simp; omega))) hb2
  have fs := Blk.below ((Blk.zeros8 w1 25 rfl).row .i64 (ss s)) hb2
  have hB2 := belowChain (below_setRow (hB1.alloc (by first | omega | (simp; done) | (simp; omega)) (.cells #[.int .i64 0, .int .i64 0, .int .i64 0, .int .i64 0, .int .i64 0, .int .i64 0, .int .i64 0, .int .i64 0] 25)) (g := w1.heap.size) (by first | omega | (simp; done) | (simp; omega)) (arr .i64 8 (ss s))) hb2 (by first | omega | (simp; done) | (simp; omega))
  have hls := fs.lt
  clear hb2 hB1

  have fx := ((fx.alloc (.cells (arr .i64 256 (fun _ => 0)) 29)).rowOther w2.heap.size (arr .i64 256 (fun i => mred (x i))) (by first | omega | (simp; done) | (simp; omega)))
  have fs := ((fs.alloc (.cells (arr .i64 256 (fun _ => 0)) 29)).rowOther w2.heap.size (arr .i64 256 (fun i => mred (x i))) (by first | omega | (simp; done) | (simp; omega)))
  have fa := (Blk.new w2 .i64 256 (fun _ => 0) 29 rfl).row .i64 (fun i => mred (x i))
  have hB3 := below_setRow (hB2.alloc (by first | omega | (simp; done) | (simp; omega)) (.cells (arr .i64 256 (fun _ => 0)) 29)) (g := w2.heap.size) (by first | omega | (simp; done) | (simp; omega)) (arr .i64 256 (fun i => mred (x i)))
  cases hrx : redB x with
  | false =>
    go_wp2_with (first | (with_reducible refine at_store 29 _ _ rfl ?_; refine wpList_store_arr iP rfl _ _ rfl _ rfl rfl (Blk.new _ _ _ _ _ rfl) ?_))
    go_ret
    exact ⟨rfl, hB3⟩
  | true =>
    have QX := Lib.hid (fun i (hi : i < 256) => And.intro (Hx.out i hi).1 (redB_true hrx i hi))
    clear hrx
    go_wp2_with (first | (with_reducible refine at_store 29 _ _ rfl ?_; refine wpList_store_arr iP rfl _ _ rfl _ rfl rfl (Blk.new _ _ _ _ _ rfl) ?_) | (with_reducible refine at_load 23 _ rfl ?_; refine wpList_load_arr Tryd.underlying23 iU rfl _ rfl _ rfl (fx) ?_))
    refine (implHighBits s x _ hs3 (hp.below hB3) QX.out).mono ?_
    rintro e w3 ⟨rfl, hb3⟩
    have fs := Blk.below fs hb3
    have fa := Blk.below fa hb3
    have hB4 := belowChain hB3 hb3 (by first | omega | (simp; done) | (simp; omega))
    have hla := fa.lt
    clear hb3 hB2 hB3 fx
    go_wp2_with (first | (with_reducible refine at_store 32 _ _ rfl ?_; refine wpList_store_arr iB rfl _ _ rfl _ rfl rfl (Blk.new _ _ _ _ _ rfl) ?_))
    go_loopw [10] (fun i wr => ∃ k : Nat, k ≤ 256 ∧ i = .int .i64 k ∧ Below w.heap.size w wr ∧ Blk wr w3.heap.size .u8 256 (fun i => decHi (mred (x i)) (ss s 5)) 32 ∧ Blk wr w2.heap.size .i64 256 (fun i => mred (x i)) 29 ∧ Blk wr w1.heap.size .i64 8 (ss s) 25) (fun i _ => 256 - (intOf i).toNat)
    case atStart => exact ⟨0, by omega, rfl, below_setRow (hB4.alloc (by first | omega | (simp; done) | (simp; omega)) _) (by first | omega | (simp; done) | (simp; omega)) _, (Blk.new _ _ _ _ _ rfl).row _ _, (fa.alloc _).rowOther _ _ (by first | omega | (simp; done) | (simp; omega)), (fs.alloc _).rowOther _ _ (by first | omega | (simp; done) | (simp; omega))⟩
    case round =>
      obtain ⟨k, hk, rfl, hb, h2, h1, h0⟩ := hrel
      by_cases hlt : k < 256
      · have hc2 := h2.cell hlt
        have hc1 := h1.cell hlt
        have hc0 := h0.cellv 5 _ (by omega) rfl
        have hm0 := mred_lo (x k)
        have hm1 := mred_hi (x k)
        obtain ⟨hd0, hd1⟩ := decHi_bd s _ hs3 hm0 hm1
        go_wp2_with fail
        go_quiet ((first | (go_at_call 10; exact Calls.quiet_eq (spDecomposeS s _ _ hs3 hm0 (by omega)))))
        go_wp2_with fail
        go_roundw
        case rel => exact ⟨k + 1, by omega, by go_num, below_drewM hb _, h2.drewN _, h1.drewN _, h0.drewN _⟩
        case measure => simp [intOf]; omega
      · go_wp2_with fail
        go_ret
        exact ⟨rfl, hb⟩

end Go.Proofs.YtkckbfjimlmjhaaDoor
