/-
  The reference's packing, and the laws of packing.
-/
import Derived.Test.YtanfpnidlgejhaaDoorPack
namespace Go.Proofs.YtanfpnidlgejhaaDoor
open Go.RowKit

theorem i64_bit (y : Int) (h0 : 0 ≤ y) (h1 : y < 9223372036854775808) : bits .and .i64 y 1 = y % 2 := by
  obtain ⟨Y, rfl⟩ := Int.eq_ofNat_of_zero_le h0
  show IntKind.i64.wrap ((BitVec.ofInt 64 (Y : Int) &&& BitVec.ofInt 64 ((1 : Nat) : Int)).toNat : Int) = _
  rw [BitVec.toNat_and, ofInt_u64 Y (by omega), ofInt_u64 1 (by omega), Nat.and_one_is_mod]
  simp only [IntKind.wrap, IntKind.signed, IntKind.bits]
  simp
  omega


theorem ppart_val' (d : Nat) (f : Nat → Int) (hf : ∀ i, i < 256 → 0 ≤ f i ∧ f i < 2 ^ d) (i k p : Nat) (hi : i < 256) (hk : k < d) (hp : p = d * i + k) :
    bits .or .u8 (ppart (dn d f 256) p (p / 8)) (f i / 2 ^ k % 2 * 2 ^ (p % 8) % 256) = ppart (dn d f 256) (p + 1) (p / 8) := by
  have h := ppart_val d f hf i k p hi hk hp
  have hb : f i / 2 ^ k % 2 = 0 ∨ f i / 2 ^ k % 2 = 1 := Int.emod_two_eq _
  have hr : (2 : Int) ^ (p % 8) ≤ 128 := pow_mono2 (p % 8) 7 (by omega)
  have hq := pow_pos2 (p % 8)
  rw [Int.emod_eq_of_lt (a := f i / 2 ^ k % 2 * 2 ^ (p % 8)) (by rcases hb with h | h <;> rw [h] <;> omega) (by rcases hb with h | h <;> rw [h] <;> omega)]
  exact h

set_option maxRecDepth 100000 in
set_option maxHeartbeats 1000000 in
theorem spPacked (f : Nat → Int) (d : Nat) (w : World) (hd0 : 0 < d) (hd : d ≤ 20) (hf : ∀ i, i < 256 → 0 ≤ f i ∧ f i < 2 ^ d) :
    Calls Tryd.prog 35 #[.agg (arr .i64 256 f), .int .i64 (d : Int)] w fun e w' => ∃ g, e = .returned (.slice (some ⟨g, 0, none⟩) (32 * d) (32 * d)) ∧ w.heap.size ≤ g ∧ Blk w' g .u8 (32 * d) (pby d f 256) 5 ∧ Below w.heap.size w w' := by
  have HF := Lib.hid hf; clear hf
  go_enter Tryd.func35, Tryd.ntmps35
  go_wp2_with (first | (with_reducible refine at_make _ _ _ rfl ?_; refine wpList_make_int Tryd.underlying22 bInfo rfl _ _ rfl _ _ (32 * d) (32 * d) _ _ rfl rfl (by omega) (by omega) (Nat.le_refl _) (by omega) ?_))
  go_loopw [6] (fun i wr => ∃ k : Nat, k ≤ 256 ∧ i = .int .i64 k ∧ Below w.heap.size w wr ∧ Blk wr (w.heap.size + 1) .u8 (32 * d) (ppart (dn d f 256) (d * k)) 5 ∧ Blk wr w.heap.size .i64 256 f 43) (fun i _ => 256 - (intOf i).toNat)
  case atStart => exact ⟨0, by omega, rfl, (((Below.refl _ _).alloc (Nat.le_refl _) _).alloc (by first | omega | (simp; done) | (simp; omega)) _), (Blk.new (g := w.heap.size + 1) (w.alloc (.cells (arr .i64 256 f) 43)) .u8 (32 * d) (fun _ => 0) 5 (by first | omega | (simp; done) | (simp; omega))).congr (fun j _ => by rw [Nat.mul_zero, ppart_zero]), (Blk.new _ _ _ _ _ rfl).alloc _⟩
  case round =>
    obtain ⟨i, hi, rfl, hbe, h1, h0⟩ := hrel
    by_cases hlt : i < 256
    · go_wp2_with fail
      go_loopw [7] (fun t ws => ∃ k : Nat, k ≤ d ∧ t = .int .i64 k ∧ Below w.heap.size w ws ∧ Blk ws (w.heap.size + 1) .u8 (32 * d) (ppart (dn d f 256) (d * i + k)) 5 ∧ Blk ws w.heap.size .i64 256 f 43) (fun t _ => d - (intOf t).toNat)
      case atStart => exact ⟨0, by omega, rfl, hbe, h1, h0⟩
      case round =>
        clear h1 h0 hbe
        obtain ⟨k, hk, rfl, hbe, h1, h0⟩ := hrel
        by_cases hlk : k < d
        · have hdi : d * i + k < d * 256 := by
            have : d * (i + 1) ≤ d * 256 := Nat.mul_le_mul_left d hlt
            rw [Nat.mul_succ] at this
            omega
          obtain ⟨p, hpe⟩ : ∃ p : Nat, p = d * i + k := ⟨_, rfl⟩
          have hp5 : p < 5120 := by have : d * 256 ≤ 20 * 256 := Nat.mul_le_mul_right 256 hd; omega
          have hw : wrap64 (wrap64 ((i : Int) * (d : Int)) + (k : Int)) = (p : Int) := by
            obtain ⟨q, hq⟩ : ∃ q : Nat, q = d * i := ⟨_, rfl⟩
            have e1 : (i : Int) * (d : Int) = (q : Int) := by rw [hq, Nat.mul_comm]; simp
            rw [← hq] at hpe
            rw [e1, wrap64_id (q : Int) (by omega), wrap64_id ((q : Int) + (k : Int)) (by omega), hpe]
            simp
          have hp : p < 8 * (32 * d) := by omega
          have hpn : p / 8 < 32 * d := by omega
          rw [← hpe] at h1
          have hc1 := h1.cell hpn
          have hf1 := h1.frozen (p / 8)
          have hc0 := h0.cell hlt
          obtain ⟨f0, f1⟩ := HF.out i hlt
          have f2 : f i < 1048576 := Int.lt_of_lt_of_le f1 (pow_mono2 d 20 hd)
          have hpos := pow_pos2 k
          have g0 : 0 ≤ f i / 2 ^ k := Int.ediv_nonneg f0 (Int.le_of_lt hpos)
          have g1 : f i / 2 ^ k ≤ f i := Int.ediv_le_self _ f0
          have hbit := i64_bit (f i / 2 ^ k) g0 (by omega)
          obtain ⟨u0, u1⟩ := ppart_bd (dn d f 256) p (p / 8)
          have HPE := Lib.hid hpe
          clear hpe hdi f1
          go_wp2_with fail
          refine wp_region_drew_tail 20 (by kernel_rfl) (by kernel_rfl) ?_
          simp only [List.take_succ_cons, List.take_zero, List.drop_succ_cons, List.drop_zero]
          repeat (go_big_quiet_step (fail))
          refine wpQuiet_nil ?_
          intro _ hw'
          obtain ⟨nq, hw''⟩ := hw'
          subst hw''
          have hval := ppart_val' d f HF.out i k p hlt hlk HPE.out
          rw [hval]
          go_wp2_with fail
          go_roundw
          case rel => exact ⟨k + 1, by omega, by go_num, (below_drewN hbe _).setCell (by first | omega | (simp; done) | (simp; omega)) _, ((h1.drewN _).set (p / 8) _).congr fun j _ => by
              rw [show d * i + (k + 1) = p + 1 by have := HPE.out; omega]
              by_cases e : j = p / 8
              · subst e; rw [if_pos rfl]
              · rw [if_neg e, ppart_other _ _ _ e], (h0.drewN _).other _ _ (by first | omega | (simp; done) | (simp; omega))⟩
          case measure => simp [intOf]; omega
        · obtain rfl : k = d := by omega
          go_wp2_with fail
          go_roundw
          case rel => exact ⟨i + 1, by omega, by go_num, hbe, h1.congr fun j _ => by rw [Nat.mul_succ], h0⟩
          case measure => simp [intOf]; omega
    · obtain rfl : i = 256 := by omega
      go_wp2_with fail
      go_ret
      exact ⟨w.heap.size + 1, rfl, by omega, h1.congr fun j _ => ppart_end d f 256 j HF.out, hbe⟩

set_option maxRecDepth 100000 in
set_option maxHeartbeats 1000000 in
theorem spPackedFrom (f : Nat → Int) (d N : Nat) (a top : Int) (w : World) (ha : a + top = (N : Int)) (hN : N < 2 ^ 62) (hbl : blen 62 N = d) (_a0 : 0 ≤ a) (_a1 : a ≤ 1048576) (t0 : 0 ≤ top) (t1 : top ≤ 1048576) (hd0 : 0 < d) (hd : d ≤ 20)
    (hz : ∀ i, i < 256 → 0 ≤ f i ∧ f i < 8380417) (hf : ∀ i, i < 256 → 0 ≤ top - cen (f i) 8380417 ∧ top - cen (f i) 8380417 < 2 ^ d) :
    Calls Tryd.prog 19 #[.agg (arr .i64 256 f), .int .i64 a, .int .i64 top] w fun e w' => ∃ g, e = .returned (.slice (some ⟨g, 0, none⟩) (32 * d) (32 * d)) ∧ w.heap.size ≤ g ∧ Blk w' g .u8 (32 * d) (pby d (fun i => top - cen (f i) 8380417) 256) 5 ∧ Below w.heap.size w w' := by
  have HF := Lib.hid hf; clear hf
  have HZ := Lib.hid hz; clear hz
  go_enter Tryd.func19, Tryd.ntmps19
  go_wp2_with (first | (with_reducible refine at_store 43 _ _ rfl ?_; refine wpList_store_arr iP rfl _ _ rfl _ rfl rfl (Blk.new _ _ _ _ _ (by first | omega | (simp; done) | (simp; omega))) ?_))
  go_loopw [8] (fun i wr => ∃ k : Nat, k ≤ 256 ∧ i = .int .i64 k ∧ Below w.heap.size w wr ∧ Blk wr (w.heap.size + 1) .i64 256 (fun j => if j < k then top - cen (f j) 8380417 else 0) 43 ∧ Blk wr w.heap.size .i64 256 f 43) (fun i _ => 256 - (intOf i).toNat)
  case atStart => exact ⟨0, by omega, rfl, below_setRow (((Below.refl _ _).alloc (Nat.le_refl _) _).alloc (by first | omega | (simp; done) | (simp; omega)) _) (by first | omega | (simp; done) | (simp; omega)) _, ((Blk.new _ _ _ _ _ (by first | omega | (simp; done) | (simp; omega))).row _ _).start _, ((Blk.new _ _ _ _ _ rfl).alloc _).rowOther _ _ (by first | omega | (simp; done) | (simp; omega))⟩
  case round =>
    obtain ⟨k, hk, rfl, hbe, h1, h0⟩ := hrel
    by_cases hlt : k < 256
    · have hc := h1.cell hlt
      have hf := h1.frozen k
      have hc0 := h0.cell hlt
      obtain ⟨z0, z1⟩ := HZ.out k hlt
      have hb := cen_bd (f k) 8380417 (by omega)
      obtain ⟨hb0, hb1⟩ := hb
      go_wp2_with (first | (go_at_call 34; refine (spCentred _ _ _ (by omega) (by omega) (by omega) (by omega)).mono ?_; rintro e w' ⟨rfl, rfl⟩))
      go_roundw
      case rel => exact ⟨k + 1, by omega, by go_num, hbe.setCell (by first | omega | (simp; done) | (simp; omega)) _, Blk.fill (f := fun j => top - cen (f j) 8380417) h1, h0.other _ _ (by first | omega | (simp; done) | (simp; omega))⟩
      case measure => simp [intOf]; omega
    · obtain rfl : k = 256 := by omega
      have h1 := h1.full
      go_wp2_with fail
      refine wp_region_drew_tail 5 (by kernel_rfl) (by kernel_rfl) ?_
      simp only [List.take_succ_cons, List.take_zero, List.drop_succ_cons, List.drop_zero]
      (refine BigFrame.wpQuiet_want rfl (fun K hK => ?_); refine quiet_load_arr Tryd.underlying43 iP _ rfl _ rfl (fun w' hw' => (by obtain ⟨m, rfl⟩ := hw'; exact h1.drewN m)) (hK _ ?_); clear hK K; simp only [Act.put, List.setIfInBounds_toArray, List.set_cons_zero, List.set_cons_succ])
      repeat (go_big_quiet_step ((go_at_call 9; exact Calls.quiet_eq (spBits N _ hN))))
      refine wpQuiet_nil ?_
      intro _ hw'
      obtain ⟨nq, hw''⟩ := hw'
      subst hw''
      rw [hbl]
      go_wp2_with fail
      refine (spPacked _ d _ hd0 hd HF.out).mono ?_
      rintro e w2 ⟨g, rfl, hg, hb, hb2⟩
      go_wp2_with fail
      go_ret
      exact ⟨g, rfl, Nat.le_trans hbe.size (by simpa using hg), hb, hbe.trans ((below_drewN (Below.refl _ _) nq).trans (hb2.mono (by simpa using hbe.size)))⟩

end Go.Proofs.YtanfpnidlgejhaaDoor
