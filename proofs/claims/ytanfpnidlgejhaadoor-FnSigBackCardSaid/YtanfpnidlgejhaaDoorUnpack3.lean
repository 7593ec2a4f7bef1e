/-
  Bytes read as numbers: the laws.
-/
import Derived.Test.YtanfpnidlgejhaaDoorUnpack2
namespace Go.Proofs.YtanfpnidlgejhaaDoor
open Go.RowKit

theorem rd_of_row {w : World} {a : Option Addr} {len cap : Nat} {zs : List Int} (h : IsRow .u8 w a len cap zs) (h0 : 0 < len) : ∃ x, a = some x ∧ Rd .u8 w x len (fun j => zs.getD j 0) ∧ ∀ i, i < len → 0 ≤ zs.getD i 0 ∧ zs.getD i 0 < 256 := by
  rcases h with ⟨_, h, _⟩ | ⟨x, ha, hl, hm, hz, hc, hw⟩
  · omega
  · refine ⟨x, ha, fun j hj => hc j (by omega), fun i hi => ?_⟩
    have hi' : i < zs.length := by omega
    have := bounds_u8 (hw (zs[i]) (List.getElem_mem hi'))
    rw [List.getD, List.getElem?_eq_getElem hi', Option.getD_some]
    omega

set_option maxRecDepth 100000 in
set_option maxHeartbeats 1000000 in
theorem spUnpackedFrom (x : Addr) (n cap d N : Nat) (a top : Int) (b : Nat → Int) (w : World) (ha : a + top = (N : Int)) (hN : N < 2 ^ 62) (hbl : blen 62 N = d) (_a0 : 0 ≤ a) (t0 : 0 ≤ top) (t1 : top ≤ 1048576) (_a1 : a ≤ 1048576) (hd : d ≤ 20) (hn : n = 32 * d) (hr : Rd .u8 w x n b) (hb : ∀ i, i < n → 0 ≤ b i ∧ b i < 256) :
    Calls Tryd.prog 14 #[.slice (some x) n cap, .int .i64 a, .int .i64 top] w fun e w' => e = .returned (.agg (arr .i64 256 fun i => (top - ubits b n d i) % 8380417)) ∧ Below w.heap.size w w' := by
  have HB := Lib.hid hb; clear hb
  have HR := Lib.hid hr; clear hr
  have HN := Lib.hid hn; clear hn
  have HU := Lib.hid (fun i => ubits_bd b n d i)
  go_enter Tryd.func14, Tryd.ntmps14
  go_wp2_with fail
  try rw [ha]
  refine (spBits N _ hN).mono ?_
  rintro e w' ⟨rfl, rfl⟩
  try rw [hbl]
  go_wp2_with fail
  refine (spUnpacked x n cap d b _ hd HN.out (HR.out.below ((Below.refl _ _).alloc (Nat.le_refl _) _)) HB.out).mono ?_
  rintro e w1 ⟨rfl, hb1⟩
  have f0 := Blk.below (Blk.new w .i64 256 (fun _ => 0) 43 rfl) hb1
  have hB1 := belowChain ((Below.refl w.heap.size w).alloc (Nat.le_refl _) (.cells (arr .i64 256 (fun _ => 0)) 43)) hb1 (by first | omega | (simp; done) | (simp; omega))
  have hl0 := f0.lt
  clear hb1
  go_wp2_with (first | (with_reducible refine at_store 43 _ _ rfl ?_; refine wpList_store_arr iP rfl _ _ rfl _ rfl rfl (Blk.new _ _ _ _ _ rfl) ?_))
  go_loopw [8] (fun i wr => ∃ k : Nat, k ≤ 256 ∧ i = .int .i64 k ∧ Below w.heap.size w wr ∧ Blk wr w1.heap.size .i64 256 (fun j => if j < k then (top - ubits b n d j) % 8380417 else ubits b n d j) 43 ∧ Blk wr w.heap.size .i64 256 (fun _ => 0) 43) (fun i _ => 256 - (intOf i).toNat)
  case atStart => exact ⟨0, by omega, rfl, below_setRow (hB1.alloc (by first | omega | (simp; done) | (simp; omega)) _) (by first | omega | (simp; done) | (simp; omega)) _, ((Blk.new _ _ _ _ _ rfl).row _ _).start _, (f0.alloc _).rowOther _ _ (by first | omega | (simp; done) | (simp; omega))⟩
  case round =>
    obtain ⟨k, hk, rfl, hbe, h1, h0⟩ := hrel
    by_cases hlt : k < 256
    · have hc := h1.cell hlt
      rw [if_neg (by omega)] at hc
      have hf := h1.frozen k
      obtain ⟨u0, u1⟩ := HU.out k
      have u2 : ubits b n d k < 1048576 := by
        have e : (2 : Int) ^ 20 = 2 ^ d * 2 ^ (20 - d) := by rw [← pow_add2]; congr 1; omega
        have h4 := pow_pos2 (20 - d)
        have h5 : (2 : Int) ^ d * 1 ≤ 2 ^ d * 2 ^ (20 - d) := Int.mul_le_mul_of_nonneg_left (by omega) (Int.le_of_lt (pow_pos2 d))
        rw [← e, show (2 : Int) ^ 20 = 1048576 from rfl] at h5
        omega
      clear u1
      go_wp2_with (first | (go_at_call 31; refine (spMod _ _ (by omega) (by omega)).mono ?_; rintro e w' ⟨rfl, rfl⟩))
      go_roundw
      case rel => exact ⟨k + 1, by omega, by go_num, hbe.setCell (by first | omega | (simp; done) | (simp; omega)) _, Blk.fill (f := fun j => (top - ubits b n d j) % 8380417) h1, h0.other _ _ (by first | omega | (simp; done) | (simp; omega))⟩
      case measure => simp [intOf]; omega
    · obtain rfl : k = 256 := by omega
      have h1 := h1.full
      go_wp2_with (first | (with_reducible refine at_load 43 _ rfl ?_; refine wpList_load_arr Tryd.underlying43 iP rfl _ rfl _ rfl (h1) ?_) | (with_reducible refine at_store 43 _ _ rfl ?_; refine wpList_store_arr iP rfl _ _ rfl _ rfl rfl (h0) ?_))
      exact bodyPost_ret (v := .agg (arr .i64 256 fun i => (top - ubits b n d i) % 8380417)) (results_arr Tryd.underlying43 iP rfl _ _ _ rfl (h0.row _ _)) rfl ⟨rfl, below_setRow hbe (by first | omega | (simp; done) | (simp; omega)) _⟩



end Go.Proofs.YtanfpnidlgejhaaDoor
