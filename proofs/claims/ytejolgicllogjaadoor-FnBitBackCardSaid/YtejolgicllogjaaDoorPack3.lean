/-
  The laws of packing.
-/
import Derived.Test.YtejolgicllogjaaDoorPack2
import Derived.Test.YtejolgicllogjaaDoorHeld
namespace Go.Proofs.YtejolgicllogjaaDoor
open Go.RowKit

/-- Whether all numbers, centred, are from -a to top. -/
def withB (f : Nat → Int) (a top : Int) : Bool := (List.range 256).all fun i => decide (-a ≤ cen (f i) 8380417 ∧ cen (f i) 8380417 ≤ top)
theorem withB_true {f : Nat → Int} {a top : Int} (h : withB f a top = true) (i : Nat) (hi : i < 256) : -a ≤ cen (f i) 8380417 ∧ cen (f i) 8380417 ≤ top := by
  unfold withB at h
  rw [List.all_eq_true] at h
  simpa using h i (List.mem_range.2 hi)
theorem withB_false {f : Nat → Int} {a top : Int} (i : Nat) (hi : i < 256) (h : ¬(-a ≤ cen (f i) 8380417 ∧ cen (f i) 8380417 ≤ top)) : withB f a top = false := by
  unfold withB
  rw [List.all_eq_false]
  exact ⟨i, List.mem_range.2 hi, by simpa using h⟩
theorem withB_all {f : Nat → Int} {a top : Int} (h : ∀ i, i < 256 → -a ≤ cen (f i) 8380417 ∧ cen (f i) 8380417 ≤ top) : withB f a top = true := by
  unfold withB
  rw [List.all_eq_true]
  intro i hi
  simpa using h i (List.mem_range.1 hi)
/-- A slice of n bytes comes back, and what lay there is as it was. -/
def Bytes' (w : World) (n : Nat) (b : Nat → Int) (e : Ending) (w' : World) : Prop := ∃ g c, e = .returned (.slice (some ⟨g, 0, none⟩) n c) ∧ Rd .u8 w' ⟨g, 0, none⟩ n b ∧ w.heap.size ≤ g ∧ n ≤ c ∧ c ≤ 1099511627776 ∧ Below w.heap.size w w'

set_option maxRecDepth 100000 in
set_option maxHeartbeats 1000000 in
theorem lwWithin (f : Nat → Int) (a top : Int) (w : World) (a0 : 0 ≤ a) (a1 : a ≤ 1048576) (_t0 : 0 ≤ top) (_t1 : top ≤ 1048576) (hz : ∀ i, i < 256 → 0 ≤ f i ∧ f i < 8380417) :
    Calls Tryd.prog 13 #[.agg (arr .i64 256 f), .int .i64 a, .int .i64 top] w fun e w' => e = .returned (.bool (withB f a top)) ∧ Below w.heap.size w w' := by
  have HZ := Lib.hid hz; clear hz
  go_enter Tryd.func13, Tryd.ntmps13
  go_wp2_with (first | (with_reducible refine at_load 33 _ rfl ?_; refine wpList_load_arr Tryd.underlying33 iP rfl _ rfl _ rfl (Blk.new w _ _ _ _ rfl) ?_))
  go_loop [11] (fun i => ∃ k : Nat, k ≤ 256 ∧ i = .int .i64 k ∧ Hid (∀ j, j < k → -a ≤ cen (f j) 8380417 ∧ cen (f j) 8380417 ≤ top)) (fun i => 256 - (intOf i).toNat)
  case atStart => exact ⟨0, by omega, rfl, Lib.hid (fun j hj => by omega)⟩
  case round =>
    obtain ⟨k, hk, rfl, hall⟩ := hrel
    by_cases hlt : k < 256
    · obtain ⟨z0, z1⟩ := HZ.out k hlt
      obtain ⟨cv, hcv⟩ : ∃ cv, cv = cen (f k) 8380417 := ⟨_, rfl⟩
      have HC := Lib.hid hcv
      by_cases h1 : cv < -a
      · go_wp2_with (first | (go_at_call 28; refine (spCentred _ _ _ (by omega) (by omega) (by omega) (by omega)).mono ?_; rintro e w' ⟨rfl, rfl⟩; rw [← HC.out]))
        go_ret
        exact ⟨ret_bool (withB_false k hlt (by rw [← HC.out]; omega)).symm, (Below.refl _ _).alloc (Nat.le_refl _) _⟩
      · by_cases h2 : top < cv
        · go_wp2_with (first | (go_at_call 28; refine (spCentred _ _ _ (by omega) (by omega) (by omega) (by omega)).mono ?_; rintro e w' ⟨rfl, rfl⟩; rw [← HC.out]))
          go_ret
          exact ⟨ret_bool (withB_false k hlt (by rw [← HC.out]; omega)).symm, (Below.refl _ _).alloc (Nat.le_refl _) _⟩
        · go_wp2_with (first | (go_at_call 28; refine (spCentred _ _ _ (by omega) (by omega) (by omega) (by omega)).mono ?_; rintro e w' ⟨rfl, rfl⟩; rw [← HC.out]))
          go_round
          case rel => exact ⟨k + 1, by omega, by go_num, Lib.hid (fun j hj => by
            by_cases e : j = k
            · subst e; rw [← HC.out]; omega
            · exact hall.out j (by omega))⟩
          case measure => simp [intOf]; omega
    · obtain rfl : k = 256 := by omega
      go_wp2_with fail
      go_ret
      exact ⟨ret_bool (withB_all hall.out).symm, (Below.refl _ _).alloc (Nat.le_refl _) _⟩

set_option maxRecDepth 100000 in
set_option maxHeartbeats 1000000 in
theorem lwPacks (x : Addr) (cap : Nat) (b f : Nat → Int) (d N : Nat) (a top : Int) (w : World) (ha : a + top = (N : Int)) (hN : N < 2 ^ 62) (hbl : blen 62 N = d) (a0 : 0 ≤ a) (a1 : a ≤ 1048576) (t0 : 0 ≤ top) (t1 : top ≤ 1048576) (hd0 : 0 < d) (hd : d ≤ 20)
    (hz : ∀ i, i < 256 → 0 ≤ f i ∧ f i < 8380417) (hw : withB (fun i => mred (f i)) a top = true) (hN2 : (N : Int) < 2 ^ d) (hb : Rd .u8 w x (32 * d) b) (he : ∀ j, j < 32 * d → b j = pby d (fun i => top - cen (mred (f i)) 8380417) 256 j) :
    Calls Tryd.prog 14 #[.slice (some x) (32 * d) cap, .agg (arr .u32 256 f), .int .i64 a, .int .i64 top] w fun e w' => e = .returned (.bool true) ∧ Below w.heap.size w w' := by
  have HZ := Lib.hid hz; clear hz
  have HB := Lib.hid hb; clear hb
  have HE := Lib.hid he; clear he
  have HF := Lib.hid (show ∀ i, i < 256 → 0 ≤ top - cen (mred (f i)) 8380417 ∧ top - cen (mred (f i)) 8380417 < 2 ^ d from fun i hi => by have := withB_true hw i hi; omega)
  clear hN2
  have hr : redB f = true := by
    unfold redB
    rw [List.all_eq_true]
    intro i hi
    simpa using (HZ.out i (List.mem_range.1 hi)).2
  go_enter Tryd.func14, Tryd.ntmps14
  go_wp2_with (first | (with_reducible refine at_load 30 _ rfl ?_; refine wpList_load_arr Tryd.underlying30 iU rfl _ rfl _ rfl (Blk.new w _ _ _ _ rfl) ?_))
  refine (lwPlain f _ (fun i hi => by have := HZ.out i hi; omega)).mono ?_
  rintro e w1 ⟨rfl, hb1⟩
  rw [hr]
  have hB1 := belowChain ((Below.refl w.heap.size w).alloc (Nat.le_refl _) (.cells (arr .u32 256 f) 30)) hb1 (by first | omega | (simp; done) | (simp; omega))
  clear hb1
  go_wp2_with (first | (with_reducible refine at_store 33 _ _ rfl ?_; refine wpList_store_arr iP rfl _ _ rfl _ rfl rfl (Blk.new _ _ _ _ _ rfl) ?_))
  refine wp_load_arr Tryd.underlying33 iP _ rfl _ rfl ((Blk.new w1 .i64 256 (fun _ => 0) 33 rfl).row .i64 (fun i => mred (f i))) ?_
  go_wp2_with fail
  refine (lwWithin _ a top _ a0 a1 t0 t1 (fun i _ => ⟨mred_lo _, mred_hi _⟩)).mono ?_
  rintro e w2 ⟨rfl, hb2⟩
  rw [hw]
  have f1 := Blk.below ((Blk.new w1 .i64 256 (fun _ => 0) 33 rfl).row .i64 (fun i => mred (f i))) hb2
  have hB2 := belowChain (below_setRow (hB1.alloc hB1.size (.cells (arr .i64 256 (fun _ => 0)) 33)) (g := w1.heap.size) hB1.size (arr .i64 256 (fun i => mred (f i)))) hb2 (by have := hB1.size; rw [setRow_size]; simp; omega)
  clear hb2
  go_wp2_with fail
  refine wp_load_arr Tryd.underlying33 iP _ rfl _ rfl f1 ?_
  go_wp2_with fail
  refine (spPackedFrom _ d N a top _ ha hN hbl a0 a1 t0 t1 hd0 hd (fun i _ => ⟨mred_lo _, mred_hi _⟩) HF.out).mono ?_
  rintro e w3 ⟨g, rfl, hg, hbg, hb3⟩
  go_wp2_with fail
  refine (lwAlike x ⟨g, 0, none⟩ (32 * d) cap (32 * d) b _ _ ((HB.out.below hB2).below hb3) (Blk.rd (L := 0) hbg (by omega) (fun j _ => by rw [Nat.zero_add])) HE.out).mono ?_
  rintro e w' ⟨rfl, rfl⟩
  go_wp2_with fail
  go_ret
  exact ⟨rfl, belowChain hB2 hb3 hB2.size⟩





end Go.Proofs.YtejolgicllogjaaDoor
