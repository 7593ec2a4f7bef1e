/-
  The laws of packing.
-/
import Derived.Test.YtanfpnidlgejhaaDoorPack2
import Derived.Test.YtanfpnidlgejhaaDoorHeld
namespace Go.Proofs.YtanfpnidlgejhaaDoor
open Go.RowKit

/-- Whether all numbers, centred, are from -a to top. -/
def withB (f : Nat → Int) (a top : Int) : Bool := (List.range 256).all fun i => decide (-a ≤ cen (f i) 8380417 ∧ cen (f i) 8380417 ≤ top)
theorem withB_true {f : Nat → Int} {a top : Int} (h : withB f a top = true) (i : Nat) (hi : i < 256) : -a ≤ cen (f i) 8380417 ∧ cen (f i) 8380417 ≤ top := by
  unfold withB at h
  rw [List.all_eq_true] at h
  simpa using h i (List.mem_range.2 hi)
theorem withB_false {f : Nat → Int} {a top : Int} (i : Nat) (hi : i < 256) (h : ¬(-a ≤ cen (f i) 8380417 ∧ cen (f i) 8380417 ≤ top)) : withB f a top = false := by
  unfold withB
  rw [List.all_eq_false]
  exact ⟨i, List.mem_range.2 hi, by simpa using h⟩
theorem withB_all {f : Nat → Int} {a top : Int} (h : ∀ i, i < 256 → -a ≤ cen (f i) 8380417 ∧ cen (f i) 8380417 ≤ top) : withB f a top = true := by
  unfold withB
  rw [List.all_eq_true]
  intro i hi
  simpa using h i (List.mem_range.1 hi)
/-- A slice of n bytes comes back, and what lay there is as it was. -/
def Bytes' (w : World) (n : Nat) (b : Nat → Int) (e : Ending) (w' : World) : Prop := ∃ g c, e = .returned (.slice (some ⟨g, 0, none⟩) n c) ∧ Rd .u8 w' ⟨g, 0, none⟩ n b ∧ w.heap.size ≤ g ∧ n ≤ c ∧ c ≤ 1099511627776 ∧ Below w.heap.size w w'

set_option maxRecDepth 100000 in
set_option maxHeartbeats 1000000 in
theorem lwWithin (f : Nat → Int) (a top : Int) (w : World) (a0 : 0 ≤ a) (a1 : a ≤ 1048576) (_t0 : 0 ≤ top) (_t1 : top ≤ 1048576) (hz : ∀ i, i < 256 → 0 ≤ f i ∧ f i < 8380417) :
    Calls Tryd.prog 18 #[.agg (arr .i64 256 f), .int .i64 a, .int .i64 top] w fun e w' => e = .returned (.bool (withB f a top)) ∧ Below w.heap.size w w' := by
  have HZ := Lib.hid hz; clear hz
  go_enter Tryd.func18, Tryd.ntmps18
  go_wp2_with (first | (with_reducible refine at_load 43 _ rfl ?_; refine wpList_load_arr Tryd.underlying43 iP rfl _ rfl _ rfl (Blk.new w _ _ _ _ rfl) ?_))
  go_loop [11] (fun i => ∃ k : Nat, k ≤ 256 ∧ i = .int .i64 k ∧ Hid (∀ j, j < k → -a ≤ cen (f j) 8380417 ∧ cen (f j) 8380417 ≤ top)) (fun i => 256 - (intOf i).toNat)
  case atStart => exact ⟨0, by omega, rfl, Lib.hid (fun j hj => by omega)⟩
  case round =>
    obtain ⟨k, hk, rfl, hall⟩ := hrel
    by_cases hlt : k < 256
    · obtain ⟨z0, z1⟩ := HZ.out k hlt
      obtain ⟨cv, hcv⟩ : ∃ cv, cv = cen (f k) 8380417 := ⟨_, rfl⟩
      have HC := Lib.hid hcv
      by_cases h1 : cv < -a
      · go_wp2_with (first | (go_at_call 34; refine (spCentred _ _ _ (by omega) (by omega) (by omega) (by omega)).mono ?_; rintro e w' ⟨rfl, rfl⟩; rw [← HC.out]))
        go_ret
        exact ⟨ret_bool (withB_false k hlt (by rw [← HC.out]; omega)).symm, (Below.refl _ _).alloc (Nat.le_refl _) _⟩
      · by_cases h2 : top < cv
        · go_wp2_with (first | (go_at_call 34; refine (spCentred _ _ _ (by omega) (by omega) (by omega) (by omega)).mono ?_; rintro e w' ⟨rfl, rfl⟩; rw [← HC.out]))
          go_ret
          exact ⟨ret_bool (withB_false k hlt (by rw [← HC.out]; omega)).symm, (Below.refl _ _).alloc (Nat.le_refl _) _⟩
        · go_wp2_with (first | (go_at_call 34; refine (spCentred _ _ _ (by omega) (by omega) (by omega) (by omega)).mono ?_; rintro e w' ⟨rfl, rfl⟩; rw [← HC.out]))
          go_round
          case rel => exact ⟨k + 1, by omega, by go_num, Lib.hid (fun j hj => by
            by_cases e : j = k
            · subst e; rw [← HC.out]; omega
            · exact hall.out j (by omega))⟩
          case measure => simp [intOf]; omega
    · obtain rfl : k = 256 := by omega
      go_wp2_with fail
      go_ret
      exact ⟨ret_bool (withB_all hall.out).symm, (Below.refl _ _).alloc (Nat.le_refl _) _⟩






end Go.Proofs.YtanfpnidlgejhaaDoor
