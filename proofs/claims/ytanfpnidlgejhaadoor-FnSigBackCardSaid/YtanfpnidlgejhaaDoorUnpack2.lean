/-
  The reference's reading of bytes as numbers.
-/
import Derived.Test.YtanfpnidlgejhaaDoorUnpack
namespace Go.Proofs.YtanfpnidlgejhaaDoor
open Go.RowKit

/-- How many bits a number below 2 to the power of f has. -/
def blen : Nat → Nat → Nat
  | 0, _ => 0
  | f + 1, n => if n = 0 then 0 else blen f (n / 2) + 1
theorem blen_le (f n : Nat) : blen f n ≤ f := by
  induction f generalizing n with
  | zero => simp [blen]
  | succ f ih => rw [blen]; split; omega; have := ih (n / 2); omega
theorem wrap64_id (n : Int) (h : -9223372036854775808 ≤ n ∧ n ≤ 9223372036854775807) : wrap64 n = n := by unfold wrap64; omega
theorem u8_bit (y : Int) (h0 : 0 ≤ y) (h1 : y < 256) : bits .and .u8 y 1 = y % 2 := by
  obtain ⟨Y, rfl⟩ := Int.eq_ofNat_of_zero_le h0
  rw [show (1 : Int) = ((1 : Nat) : Int) from rfl, u8_and_nat Y 1 (by omega) (by omega), Nat.and_one_is_mod]
  simp
theorem blen_20 : blen 62 1048575 = 20 := by decide +kernel
theorem blen_18 : blen 62 262143 = 18 := by decide +kernel

set_option maxRecDepth 100000 in
set_option maxHeartbeats 1000000 in
theorem spBits (n : Nat) (w : World) (hn : n < 2 ^ 62) :
    Calls Tryd.prog 9 #[.int .i64 (n : Int)] w fun e w' => e = .returned (.int .i64 (blen 62 n : Int)) ∧ w = w' := by
  go_enter Tryd.func9, Tryd.ntmps9
  go_wp2_with fail
  go_loopw [0, 3] (fun x t wr => ∃ (f m k : Nat), m < 2 ^ f ∧ f + k ≤ 62 ∧ x = .int .i64 (m : Int) ∧ t = .int .i64 (k : Int) ∧ Hid (k + blen f m = blen 62 n) ∧ wr = w) (fun x _ _ => (intOf x).toNat)
  case atStart => exact ⟨62, n, 0, hn, by omega, rfl, rfl, Lib.hid (by omega), rfl⟩
  case round =>
    obtain ⟨f, m, k, hm, hf, rfl, rfl, hk, rfl⟩ := hrel
    have hm2 : m < 2 ^ 62 := Nat.lt_of_lt_of_le hm (Nat.pow_le_pow_right (by omega) (by omega))
    rw [show (2 : Nat) ^ 62 = 4611686018427387904 from rfl] at hm2
    by_cases h0 : 0 < m
    · have hf1 : ∃ f', f = f' + 1 := by
        cases f with
        | zero => simp at hm; omega
        | succ f' => exact ⟨f', rfl⟩
      obtain ⟨f', rfl⟩ := hf1
      go_wp2_with fail
      go_roundw
      case rel =>
        have hq := hk.out
        rw [blen, if_neg (by omega)] at hq
        exact ⟨f', m / 2, k + 1, by rw [Nat.pow_succ] at hm; omega, by omega, by go_num, by go_num, Lib.hid (by omega), by first | rfl | trivial⟩
      case measure => simp [intOf]; omega
    · obtain rfl : m = 0 := by omega
      go_wp2_with fail
      go_ret
      have hq := hk.out
      have hz : blen f 0 = 0 := by cases f <;> simp [blen]
      exact ⟨ret_int (by omega), rfl⟩


/-- What has been read of place i, up to its bit k. -/
def upart (b : Nat → Int) (n d i k : Nat) (j : Nat) : Int := if j < i then ubits b n d j else if j = i then dn 8 b n / 2 ^ (d * i) % 2 ^ k else 0
theorem upart_zero (b : Nat → Int) (n d i j : Nat) : upart b n d i 0 j = if j < i then ubits b n d j else 0 := by
  unfold upart
  by_cases h : j < i
  · simp [h]
  · by_cases e : j = i <;> simp [h, e, Int.emod_one]
theorem upart_full (b : Nat → Int) (n d i j : Nat) : upart b n d i d j = if j < i + 1 then ubits b n d j else 0 := by
  unfold upart ubits
  by_cases h : j < i
  · simp [h, show j < i + 1 by omega]
  · by_cases e : j = i
    · subst e; simp
    · simp [h, e, show ¬ j < i + 1 by omega]
theorem upart_step (b : Nat → Int) (n d i k : Nat) (hb : ∀ i, i < n → 0 ≤ b i ∧ b i < 256) (hp : d * i + k < 8 * n) (j : Nat) :
    (if j = i then upart b n d i k i + b ((d * i + k) / 8) / 2 ^ ((d * i + k) % 8) % 2 * 2 ^ k else upart b n d i k j) = upart b n d i (k + 1) j := by
  by_cases e : j = i
  · subst e
    rw [if_pos rfl, bit_of b n hb _ hp, div_pow]
    simp only [upart, Nat.lt_irrefl, if_false, if_true]
    rw [mod_succ]
  · rw [if_neg e]
    simp [upart, e]
theorem upart_bd (b : Nat → Int) (n d i k : Nat) (hk : k ≤ 20) : 0 ≤ upart b n d i k i ∧ upart b n d i k i < 1048576 := by
  simp only [upart, Nat.lt_irrefl, if_false, if_true]
  have hp := pow_pos2 k
  have h1 := Int.emod_nonneg (dn 8 b n / 2 ^ (d * i)) (show (2 : Int) ^ k ≠ 0 by omega)
  have h2 := Int.emod_lt_of_pos (dn 8 b n / 2 ^ (d * i)) hp
  have h3 : (2 : Int) ^ k ≤ 1048576 := by
    have e : (2 : Int) ^ 20 = 2 ^ k * 2 ^ (20 - k) := by rw [← pow_add2]; congr 1; omega
    have h4 := pow_pos2 (20 - k)
    have h5 : (2 : Int) ^ k * 1 ≤ 2 ^ k * 2 ^ (20 - k) := Int.mul_le_mul_of_nonneg_left (by omega) (by omega)
    rw [← e, show (2 : Int) ^ 20 = 1048576 from rfl] at h5
    omega
  omega
theorem upart_val (b : Nat → Int) (n d i k p : Nat) (hb : ∀ i, i < n → 0 ≤ b i ∧ b i < 256) (hpe : p = d * i + k) (hp : p < 8 * n) (hk : k < 20) :
    wrap64 (upart b n d i k i + wrap64 (wrap64 (bits .and .u8 (b (p / 8) / 2 ^ (p % 8)) 1) * 2 ^ k)) = upart b n d i (k + 1) i := by
  have hs := upart_step b n d i k hb (by omega) i
  rw [if_pos rfl, ← hpe] at hs
  obtain ⟨b0, b1⟩ := hb (p / 8) (by omega)
  have hq := pow_pos2 (p % 8)
  have d0 : 0 ≤ b (p / 8) / 2 ^ (p % 8) := Int.ediv_nonneg b0 (Int.le_of_lt hq)
  have d1 : b (p / 8) / 2 ^ (p % 8) ≤ b (p / 8) := Int.ediv_le_self _ b0
  rw [u8_bit _ d0 (by omega)]
  have hu := upart_bd b n d i (k + 1) (by omega)
  have hv := upart_bd b n d i k (by omega)
  have hm : 0 ≤ b (p / 8) / 2 ^ (p % 8) % 2 := by omega
  have hz := Int.mul_nonneg hm (Int.le_of_lt (pow_pos2 k))
  rw [wrap64_id (b (p / 8) / 2 ^ (p % 8) % 2) (by omega), wrap64_id (b (p / 8) / 2 ^ (p % 8) % 2 * 2 ^ k) (by omega), wrap64_id _ (by omega), hs]

set_option maxRecDepth 100000 in
set_option maxHeartbeats 1000000 in
theorem spUnpacked (x : Addr) (n cap d : Nat) (b : Nat → Int) (w : World) (hd : d ≤ 20) (hn : n = 32 * d) (hr : Rd .u8 w x n b) (hb : ∀ i, i < n → 0 ≤ b i ∧ b i < 256) :
    Calls Tryd.prog 30 #[.slice (some x) n cap, .int .i64 (d : Int)] w fun e w' => e = .returned (.agg (arr .i64 256 (ubits b n d))) ∧ Below w.heap.size w w' := by
  have HB := Lib.hid hb; clear hb
  have HR := Lib.hid hr; clear hr
  have HN := Lib.hid hn; clear hn
  go_enter Tryd.func30, Tryd.ntmps30
  go_wp2_with (first | (with_reducible refine at_store 43 _ _ rfl ?_; refine wpList_store_arr iP rfl _ _ rfl _ rfl rfl (Blk.new _ _ _ _ _ (by first | omega | (simp; done) | (simp; omega))) ?_))
  go_loopw [6] (fun i wr => ∃ k : Nat, k ≤ 256 ∧ i = .int .i64 k ∧ Below w.heap.size w wr ∧ Blk wr (w.heap.size + 1) .i64 256 (fun j => if j < k then ubits b n d j else 0) 43 ∧ Blk wr w.heap.size .i64 256 (fun _ => 0) 43) (fun i _ => 256 - (intOf i).toNat)
  case atStart => exact ⟨0, by omega, rfl, below_setRow (((Below.refl _ _).alloc (Nat.le_refl _) _).alloc (by first | omega | (simp; done) | (simp; omega)) _) (by first | omega | (simp; done) | (simp; omega)) _, ((Blk.new _ _ _ _ _ (by first | omega | (simp; done) | (simp; omega))).row _ _).start _, ((Blk.new _ _ _ _ _ rfl).alloc _).rowOther _ _ (by first | omega | (simp; done) | (simp; omega))⟩
  case round =>
    obtain ⟨i, hi, rfl, hbe, h1, h0⟩ := hrel
    by_cases hlt : i < 256
    · have h1 : Blk wr (w.heap.size + 1) .i64 256 (upart b n d i 0) 43 := h1.congr fun j _ => (upart_zero b n d i j).symm
      go_wp2_with fail
      go_loopw [7] (fun t ws => ∃ k : Nat, k ≤ d ∧ t = .int .i64 k ∧ Below w.heap.size w ws ∧ Blk ws (w.heap.size + 1) .i64 256 (upart b n d i k) 43 ∧ Blk ws w.heap.size .i64 256 (fun _ => 0) 43) (fun t _ => d - (intOf t).toNat)
      case atStart => exact ⟨0, by omega, rfl, hbe, h1, h0⟩
      case round =>
        clear h1 h0 hbe
        obtain ⟨k, hk, rfl, hbe, h1, h0⟩ := hrel
        by_cases hlk : k < d
        · have hdi : d * i + k < d * 256 := by
            have : d * (i + 1) ≤ d * 256 := Nat.mul_le_mul_left d hlt
            rw [Nat.mul_succ] at this
            omega
          obtain ⟨p, hpe⟩ : ∃ p : Nat, p = d * i + k := ⟨_, rfl⟩
          have hp5 : p < 5120 := by have : d * 256 ≤ 20 * 256 := Nat.mul_le_mul_right 256 hd; omega
          have hw : wrap64 (wrap64 ((i : Int) * (d : Int)) + (k : Int)) = (p : Int) := by
            obtain ⟨q, hq⟩ : ∃ q : Nat, q = d * i := ⟨_, rfl⟩
            have e1 : (i : Int) * (d : Int) = (q : Int) := by rw [hq, Nat.mul_comm]; simp
            rw [← hq] at hpe
            rw [e1, wrap64_id (q : Int) (by omega), wrap64_id ((q : Int) + (k : Int)) (by omega), hpe]
            simp
          have hp : p < 8 * n := by have := HN.out; omega
          have hpn : p / 8 < n := by omega
          have hcb := (HR.out.below hbe) (p / 8) hpn
          have hc1 := h1.cell hlt
          have hf1 := h1.frozen i
          obtain ⟨b0, b1⟩ := HB.out (p / 8) hpn
          obtain ⟨u0, u1⟩ := upart_bd b n d i k (by omega)
          have HPE := Lib.hid hpe
          clear hpe hdi
          go_wp2_with fail
          refine wp_region_drew_tail 18 (by kernel_rfl) (by kernel_rfl) ?_
          simp only [List.take_succ_cons, List.take_zero, List.drop_succ_cons, List.drop_zero]
          repeat (go_big_quiet_step (fail))
          refine wpQuiet_nil ?_
          intro _ hw'
          obtain ⟨nq, hw''⟩ := hw'
          subst hw''
          have hval := upart_val b n d i k p HB.out HPE.out hp (by omega)
          rw [hval]
          go_wp2_with fail
          go_roundw
          case rel => exact ⟨k + 1, by omega, by go_num, (below_drewN hbe _).setCell (by first | omega | (simp; done) | (simp; omega)) _, ((h1.drewN _).set i _).congr fun j _ => by
              by_cases e : j = i
              · subst e; rw [if_pos rfl]
              · rw [if_neg e]; simp [upart, e], (h0.drewN _).other _ _ (by first | omega | (simp; done) | (simp; omega))⟩
          case measure => simp [intOf]; omega
        · obtain rfl : k = d := by omega
          go_wp2_with fail
          go_roundw
          case rel => exact ⟨i + 1, by omega, by go_num, hbe, h1.congr fun j _ => upart_full b n k i j, h0⟩
          case measure => simp [intOf]; omega
    · obtain rfl : i = 256 := by omega
      have h1 := h1.full
      go_wp2_with (first | (with_reducible refine at_load 43 _ rfl ?_; refine wpList_load_arr Tryd.underlying43 iP rfl _ rfl _ rfl (h1) ?_) | (with_reducible refine at_store 43 _ _ rfl ?_; refine wpList_store_arr iP rfl _ _ rfl _ rfl rfl (h0) ?_))
      exact bodyPost_ret (v := .agg (arr .i64 256 (ubits b n d))) (results_arr Tryd.underlying43 iP rfl _ _ _ rfl (h0.row _ _)) rfl ⟨rfl, below_setRow hbe (by first | omega | (simp; done) | (simp; omega)) _⟩

end Go.Proofs.YtanfpnidlgejhaaDoor
