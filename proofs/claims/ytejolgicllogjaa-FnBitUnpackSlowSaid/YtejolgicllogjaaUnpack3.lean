/-
  Bytes read as numbers: the laws.
-/
import Derived.Test.YtejolgicllogjaaUnpack2
namespace Go.Proofs.Ytejolgicllogjaa
open Go.RowKit

theorem rd_of_row {w : World} {a : Option Addr} {len cap : Nat} {zs : List Int} (h : IsRow .u8 w a len cap zs) (h0 : 0 < len) : ∃ x, a = some x ∧ Rd .u8 w x len (fun j => zs.getD j 0) ∧ ∀ i, i < len → 0 ≤ zs.getD i 0 ∧ zs.getD i 0 < 256 := by
  rcases h with ⟨_, h, _⟩ | ⟨x, ha, hl, hm, hz, hc, hw⟩
  · omega
  · refine ⟨x, ha, fun j hj => hc j (by omega), fun i hi => ?_⟩
    have hi' : i < zs.length := by omega
    have := bounds_u8 (hw (zs[i]) (List.getElem_mem hi'))
    rw [List.getD, List.getElem?_eq_getElem hi', Option.getD_some]
    omega

set_option maxRecDepth 100000 in
set_option maxHeartbeats 1000000 in
theorem spUnpackedFrom (x : Addr) (n cap d N : Nat) (a top : Int) (b : Nat → Int) (w : World) (ha : a + top = (N : Int)) (hN : N < 2 ^ 62) (hbl : blen 62 N = d) (_a0 : 0 ≤ a) (t0 : 0 ≤ top) (t1 : top ≤ 1048576) (_a1 : a ≤ 1048576) (hd : d ≤ 20) (hn : n = 32 * d) (hr : Rd .u8 w x n b) (hb : ∀ i, i < n → 0 ≤ b i ∧ b i < 256) :
    Calls Try.prog 11 #[.slice (some x) n cap, .int .i64 a, .int .i64 top] w fun e w' => e = .returned (.agg (arr .i64 256 fun i => (top - ubits b n d i) % 8380417)) ∧ Below w.heap.size w w' := by
  have HB := Lib.hid hb; clear hb
  have HR := Lib.hid hr; clear hr
  have HN := Lib.hid hn; clear hn
  have HU := Lib.hid (fun i => ubits_bd b n d i)
  go_enter Try.func11, Try.ntmps11
  go_wp2_with fail
  try rw [ha]
  refine (spBits N _ hN).mono ?_
  rintro e w' ⟨rfl, rfl⟩
  try rw [hbl]
  go_wp2_with fail
  refine (spUnpacked x n cap d b _ hd HN.out (HR.out.below ((Below.refl _ _).alloc (Nat.le_refl _) _)) HB.out).mono ?_
  rintro e w1 ⟨rfl, hb1⟩
  have f0 := Blk.below (Blk.new w .i64 256 (fun _ => 0) 28 rfl) hb1
  have hB1 := belowChain ((Below.refl w.heap.size w).alloc (Nat.le_refl _) (.cells (arr .i64 256 (fun _ => 0)) 28)) hb1 (by first | omega | (simp; done) | (simp; omega))
  have hl0 := f0.lt
  clear hb1
  go_wp2_with (first | (with_reducible refine at_store 28 _ _ rfl ?_; refine wpList_store_arr iP rfl _ _ rfl _ rfl rfl (Blk.new _ _ _ _ _ rfl) ?_))
  go_loopw [8] (fun i wr => ∃ k : Nat, k ≤ 256 ∧ i = .int .i64 k ∧ Below w.heap.size w wr ∧ Blk wr w1.heap.size .i64 256 (fun j => if j < k then (top - ubits b n d j) % 8380417 else ubits b n d j) 28 ∧ Blk wr w.heap.size .i64 256 (fun _ => 0) 28) (fun i _ => 256 - (intOf i).toNat)
  case atStart => exact ⟨0, by omega, rfl, below_setRow (hB1.alloc (by first | omega | (simp; done) | (simp; omega)) _) (by first | omega | (simp; done) | (simp; omega)) _, ((Blk.new _ _ _ _ _ rfl).row _ _).start _, (f0.alloc _).rowOther _ _ (by first | omega | (simp; done) | (simp; omega))⟩
  case round =>
    obtain ⟨k, hk, rfl, hbe, h1, h0⟩ := hrel
    by_cases hlt : k < 256
    · have hc := h1.cell hlt
      rw [if_neg (by omega)] at hc
      have hf := h1.frozen k
      obtain ⟨u0, u1⟩ := HU.out k
      have u2 : ubits b n d k < 1048576 := by
        have e : (2 : Int) ^ 20 = 2 ^ d * 2 ^ (20 - d) := by rw [← pow_add2]; congr 1; omega
        have h4 := pow_pos2 (20 - d)
        have h5 : (2 : Int) ^ d * 1 ≤ 2 ^ d * 2 ^ (20 - d) := Int.mul_le_mul_of_nonneg_left (by omega) (Int.le_of_lt (pow_pos2 d))
        rw [← e, show (2 : Int) ^ 20 = 1048576 from rfl] at h5
        omega
      clear u1
      go_wp2_with (first | (go_at_call 27; refine (spMod _ _ (by omega) (by omega)).mono ?_; rintro e w' ⟨rfl, rfl⟩))
      go_roundw
      case rel => exact ⟨k + 1, by omega, by go_num, hbe.setCell (by first | omega | (simp; done) | (simp; omega)) _, Blk.fill (f := fun j => (top - ubits b n d j) % 8380417) h1, h0.other _ _ (by first | omega | (simp; done) | (simp; omega))⟩
      case measure => simp [intOf]; omega
    · obtain rfl : k = 256 := by omega
      have h1 := h1.full
      go_wp2_with (first | (with_reducible refine at_load 28 _ rfl ?_; refine wpList_load_arr Try.underlying28 iP rfl _ rfl _ rfl (h1) ?_) | (with_reducible refine at_store 28 _ _ rfl ?_; refine wpList_store_arr iP rfl _ _ rfl _ rfl rfl (h0) ?_))
      exact bodyPost_ret (v := .agg (arr .i64 256 fun i => (top - ubits b n d i) % 8380417)) (results_arr Try.underlying28 iP rfl _ _ _ rfl (h0.row _ _)) rfl ⟨rfl, below_setRow hbe (by first | omega | (simp; done) | (simp; omega)) _⟩

set_option maxRecDepth 100000 in
set_option maxHeartbeats 1000000 in
theorem zzUnpack20 (g c : Nat) (b : Nat → Int) (w : World) (hc : 640 ≤ c) (hcm : c ≤ maxLen) (hr : Rd .u8 w ⟨g, 0, none⟩ 640 b) (hb : ∀ i, i < 640 → 0 ≤ b i ∧ b i < 256) :
    Calls Try.prog 25 #[.slice (some ⟨g, 0, none⟩) 640 c] w fun e w' => e = .returned (.agg (arr .u32 256 fun i => (524288 - ubits b 640 20 i) * 4193792 % 8380417)) ∧ Below w.heap.size w w' := by
  go_enter Try.func25, Try.ntmps25
  go_wp2_with fail
  refine (unpack20 g c b _ hc hcm (hr.below ((Below.refl _ _).alloc (Nat.le_refl _) _)) hb).mono ?_
  rintro e w1 ⟨rfl, hb1⟩
  have f0 := Blk.below (Blk.new w .u32 256 (fun _ => 0) 50 rfl) hb1
  have hB1 := belowChain ((Below.refl w.heap.size w).alloc (Nat.le_refl _) (.cells (arr .u32 256 (fun _ => 0)) 50)) hb1 (by first | omega | (simp; done) | (simp; omega))
  go_wp2_with (first | (with_reducible refine at_store 50 _ _ rfl ?_; refine wpList_store_arr iR rfl _ _ rfl _ rfl rfl (f0) ?_))
  exact bodyPost_ret (v := .agg (arr .u32 256 fun i => (524288 - ubits b 640 20 i) * 4193792 % 8380417)) (results_arr Try.underlying50 iR rfl _ _ _ rfl (f0.row _ _)) rfl ⟨rfl, below_setRow hB1 (by first | omega | (simp; done) | (simp; omega)) _⟩
set_option maxRecDepth 100000 in
set_option maxHeartbeats 1000000 in
theorem implUnpack20 (x : Addr) (cap : Nat) (b : Nat → Int) (w : World) (hr : Rd .u8 w x 640 b) (hb : ∀ i, i < 640 → 0 ≤ b i ∧ b i < 256) :
    Calls Try.prog 10 #[.slice (some x) 640 cap] w fun e w' => e = .returned (.agg (arr .u32 256 fun i => (524288 - ubits b 640 20 i) * 4193792 % 8380417)) ∧ Below w.heap.size w w' := by
  go_enter Try.func10, Try.ntmps10
  go_wp2_with fail
  refine (cloneB x 640 cap b _ (by omega) (by omega) (hr.below ((Below.refl _ _).alloc (Nat.le_refl _) _))).mono ?_
  rintro e w1 ⟨⟨g, c, rfl, hg, hc, hcm, hrd⟩, hb1⟩
  have f0 := Blk.below (Blk.new w .u32 256 (fun _ => 0) 25 rfl) hb1
  have hB1 := belowChain ((Below.refl w.heap.size w).alloc (Nat.le_refl _) (.cells (arr .u32 256 (fun _ => 0)) 25)) hb1 (by first | omega | (simp; done) | (simp; omega))
  go_wp2_with fail
  refine (zzUnpack20 g c b _ hc hcm hrd hb).mono ?_
  rintro e w2 ⟨rfl, hb2⟩
  have f0 := Blk.below f0 hb2
  have hB2 := belowChain hB1 hb2 hB1.size
  go_wp2_with fail
  refine (implOfRing _ _).mono ?_
  rintro e w3 ⟨rfl, hb3⟩
  have f0 := Blk.below f0 hb3
  have hB3 := belowChain hB2 hb3 hB2.size
  go_wp2_with (first | (with_reducible refine at_store 25 _ _ rfl ?_; refine wpList_store_arr iU rfl _ _ rfl _ rfl rfl (f0) ?_))
  exact bodyPost_ret (v := .agg (arr .u32 256 fun i => (524288 - ubits b 640 20 i) * 4193792 % 8380417)) (results_arr Try.underlying25 iU rfl _ _ _ rfl (f0.row _ _)) rfl ⟨rfl, below_setRow hB3 (by first | omega | (simp; done) | (simp; omega)) _⟩

set_option maxRecDepth 100000 in
set_option maxHeartbeats 1000000 in
theorem walkFnBitUnpack20 (a : Option Addr) (len cap : Nat) (zs : List Int) (w : World) (h : IsRow .u8 w a len cap zs) :
    Calls Try.prog 3 #[.slice a len cap] w fun e w' => e = .returned (.bool true) ∧ Below w.heap.size w w' := by
  have hlm : len ≤ maxLen := by
    rcases h with ⟨_, h, _⟩ | ⟨x, ha, hl, hm, _⟩
    · rw [h]; exact Nat.zero_le _
    · omega
  simp only [maxLen] at hlm
  by_cases hl : len = 640
  · subst hl
    obtain ⟨x, rfl, hr, hb⟩ := rd_of_row h (by omega)
    have HB := Lib.hid hb; clear hb
    have HR := Lib.hid hr; clear hr
    clear h
    go_enter Try.func3, Try.ntmps3
    go_wp2_with (first | (go_at_call 10; refine (implUnpack20 x cap _ _ HR.out HB.out).mono ?_; rintro e w1 ⟨rfl, hb1⟩) | (go_at_call 11; refine (spUnpackedFrom x 640 cap 20 1048575 _ _ _ _ (by rfl) (by decide) blen_20 (by omega) (by omega) (by omega) (by omega) (by omega) rfl (HR.out.below hb1) HB.out).mono ?_; rintro e w2 ⟨rfl, hb2⟩) | (go_at_call 9; refine (lwIs _ _ _ (fun i _ => by omega) (fun i _ => ⟨by omega, by omega⟩)).mono ?_; rintro e w3 ⟨rfl, hb3⟩))
    go_ret
    exact ⟨rfl, belowChain (belowChain hb1 hb2 hb1.size) hb3 (Nat.le_trans hb1.size hb2.size)⟩
  · by_cases hg : 2147483647 < len
    · go_enter Try.func3, Try.ntmps3
      go_wp2_with fail
      go_ret
      exact ⟨rfl, Below.refl _ _⟩
    · go_enter Try.func3, Try.ntmps3
      go_wp2_with fail
      go_ret
      exact ⟨rfl, Below.refl _ _⟩

end Go.Proofs.Ytejolgicllogjaa
