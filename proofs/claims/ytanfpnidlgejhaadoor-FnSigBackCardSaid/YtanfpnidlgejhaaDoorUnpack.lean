/-
  Bytes read as numbers.
-/
import Derived.Test.YtanfpnidlgejhaaDoorRing
import Derived.Test.YtanfpnidlgejhaaDoorSlice
import Derived.Test.YtanfpnidlgejhaaDoorBits
namespace Go.Proofs.YtanfpnidlgejhaaDoor
open Go.RowKit

/-- The number of d bits at place i. -/
def ubits (b : Nat → Int) (n d i : Nat) : Int := dn 8 b n / 2 ^ (d * i) % 2 ^ d
theorem Addr.add_zero' (g o : Nat) : (⟨g, o, none⟩ : Addr).add 0 = ⟨g, o, none⟩ := rfl
theorem Addr.add_at (g o j : Nat) : (⟨g, o, none⟩ : Addr).add j = ⟨g, o + j, none⟩ := by
  unfold Addr.add
  split
  · rename_i e; subst e; rfl
  · rfl
theorem Rd.row {w : World} {g n : Nat} {k : IntKind} {b : Nat → Int} (h : Rd k w ⟨g, 0, none⟩ n b) (j : Nat) (hj : j < n) : w.cell? ⟨g, j, none⟩ = some (.int k (b j)) := by
  have := h j hj
  rw [Addr.add_at, Nat.zero_add] at this
  exact this
theorem Rd.rowz {w : World} {g q n : Nat} {k : IntKind} {b : Nat → Int} (h : Rd k w ⟨g, q, none⟩ n b) (j : Nat) (hj : j < n) : w.cell? ⟨g, q + j, none⟩ = some (.int k (b j)) := by
  have := h j hj
  rw [Addr.add_at] at this
  exact this
theorem Rd.rowa {w : World} {g q n : Nat} {k : IntKind} {b : Nat → Int} (h : Rd k w ⟨g, q, none⟩ n b) (a j : Nat) (hj : a + j < n) : w.cell? ⟨g, q + a + j, none⟩ = some (.int k (b (a + j))) := by
  rw [Nat.add_assoc]
  exact h.rowz _ hj
theorem byte_at (b : Nat → Int) (n : Nat) (hb : ∀ i, i < n → 0 ≤ b i ∧ b i < 256) (t r : Nat) (ht : t + r < n) : dn 8 b n / 2 ^ (8 * t) / 2 ^ (8 * r) % 256 = b (t + r) := by
  rw [← div_pow, ← Nat.mul_add]
  exact dn_div 8 b n hb (t + r) ht
theorem or3 (x y z : Int) (j k : Nat) (x0 : 0 ≤ x) (x1 : x < 2 ^ j) (y0 : 0 ≤ y) (h2 : x + y * 2 ^ j < 2 ^ k) (z0 : 0 ≤ z) (h3 : x + y * 2 ^ j + z * 2 ^ k < 4294967296) : bits .or .u32 (bits .or .u32 x (y * 2 ^ j)) (z * 2 ^ k) = x + y * 2 ^ j + z * 2 ^ k := by
  have hp := pow_pos2 j
  have hy := Int.mul_nonneg y0 (Int.le_of_lt hp)
  have hz := Int.mul_nonneg z0 (Int.le_of_lt (pow_pos2 k))
  rw [u32_or j x y x0 x1 y0 (by omega), u32_or k _ z (by omega) h2 z0 h3]
theorem w20_0 (b : Nat → Int) (m : Nat) (hm : m < 128) (hb : ∀ i, i < 640 → 0 ≤ b i ∧ b i < 256) : bits .and .u32 (bits .or .u32 (bits .or .u32 (b (5 * m)) (b (5 * m + 1) * 256)) (b (5 * m + 2) * 65536)) 1048575 = ubits b 640 20 (2 * m) := by
  obtain ⟨b00, b01⟩ := hb (5 * m) (by omega)
  obtain ⟨b10, b11⟩ := hb (5 * m + 1) (by omega)
  obtain ⟨b20, b21⟩ := hb (5 * m + 2) (by omega)
  have h0 := byte_at b 640 hb (5 * m) 0 (by omega)
  have h1 := byte_at b 640 hb (5 * m) 1 (by omega)
  have h2 := byte_at b 640 hb (5 * m) 2 (by omega)
  have e := or3 (b (5 * m)) (b (5 * m + 1)) (b (5 * m + 2)) 8 16 b00 (by omega) b10 (by omega) b20 (by omega)
  rw [show (2 : Int) ^ 8 = 256 from rfl, show (2 : Int) ^ 16 = 65536 from rfl] at e
  rw [e]
  have em := u32_mask 20 (b (5 * m) + b (5 * m + 1) * 256 + b (5 * m + 2) * 65536) (by omega) (by omega) (by decide)
  rw [show ((2 ^ 20 - 1 : Nat) : Int) = 1048575 from rfl, show ((2 ^ 20 : Nat) : Int) = 1048576 from rfl] at em
  rw [em]
  unfold ubits
  rw [show 20 * (2 * m) = 8 * (5 * m) from by omega]
  generalize dn 8 b 640 / 2 ^ (8 * (5 * m)) = X at *
  simp only [Nat.mul_zero, Int.pow_zero, Int.ediv_one, Nat.add_zero, Nat.mul_one] at h0 h1 h2
  rw [show (2 : Int) ^ 20 = 1048576 from rfl]
  rw [show (2 : Int) ^ 8 = 256 from rfl] at h1
  rw [show (2 : Int) ^ (8 * 2) = 65536 from rfl] at h2
  omega
theorem w20_1 (b : Nat → Int) (m : Nat) (hm : m < 128) (hb : ∀ i, i < 640 → 0 ≤ b i ∧ b i < 256) : bits .and .u32 (bits .or .u32 (bits .or .u32 (b (5 * m + 2) / 16) (b (5 * m + 3) * 16)) (b (5 * m + 4) * 4096)) 1048575 = ubits b 640 20 (2 * m + 1) := by
  obtain ⟨b20, b21⟩ := hb (5 * m + 2) (by omega)
  obtain ⟨b30, b31⟩ := hb (5 * m + 3) (by omega)
  obtain ⟨b40, b41⟩ := hb (5 * m + 4) (by omega)
  have h2 := byte_at b 640 hb (5 * m) 2 (by omega)
  have h3 := byte_at b 640 hb (5 * m) 3 (by omega)
  have h4 := byte_at b 640 hb (5 * m) 4 (by omega)
  have e := or3 (b (5 * m + 2) / 16) (b (5 * m + 3)) (b (5 * m + 4)) 4 12 (by omega) (by omega) b30 (by omega) b40 (by omega)
  rw [show (2 : Int) ^ 4 = 16 from rfl, show (2 : Int) ^ 12 = 4096 from rfl] at e
  rw [e]
  have em := u32_mask 20 (b (5 * m + 2) / 16 + b (5 * m + 3) * 16 + b (5 * m + 4) * 4096) (by omega) (by omega) (by decide)
  rw [show ((2 ^ 20 - 1 : Nat) : Int) = 1048575 from rfl, show ((2 ^ 20 : Nat) : Int) = 1048576 from rfl] at em
  rw [em]
  unfold ubits
  rw [show 20 * (2 * m + 1) = 8 * (5 * m) + 20 from by omega, div_pow]
  generalize dn 8 b 640 / 2 ^ (8 * (5 * m)) = X at *
  rw [show (2 : Int) ^ 20 = 1048576 from rfl]
  rw [show (2 : Int) ^ (8 * 2) = 65536 from rfl] at h2
  rw [show (2 : Int) ^ (8 * 3) = 16777216 from rfl] at h3
  rw [show (2 : Int) ^ (8 * 4) = 4294967296 from rfl] at h4
  omega
theorem ubits_bd (b : Nat → Int) (n d i : Nat) : 0 ≤ ubits b n d i ∧ ubits b n d i < 2 ^ d := by
  have := pow_pos2 d
  exact ⟨Int.emod_nonneg _ (by omega), Int.emod_lt_of_pos _ this⟩

set_option maxRecDepth 100000 in
set_option maxHeartbeats 1000000 in
theorem unpack20 (g q c : Nat) (b : Nat → Int) (w : World) (hc : 640 ≤ c) (_hcm : c ≤ maxLen) (hr : Rd .u8 w ⟨g, q, none⟩ 640 b) (hb : ∀ i, i < 640 → 0 ≤ b i ∧ b i < 256) :
    Calls Tryd.prog 52 #[.slice (some ⟨g, q, none⟩) 640 c] w fun e w' => e = .returned (.agg (arr .u32 256 fun i => (524288 - ubits b 640 20 i) * 4193792 % 8380417)) ∧ Below w.heap.size w w' := by
  have HB := Lib.hid hb; clear hb
  have HR := Lib.hid hr; clear hr
  go_enter Tryd.func52, Tryd.ntmps52
  go_wp2_with fail
  go_loopw [4, 0] (fun i v wr => ∃ m o : Nat, m ≤ 128 ∧ i = .int .i64 ((2 * m : Nat) : Int) ∧ v = .slice (some ⟨g, o, none⟩) (640 - 5 * m) (c - 5 * m) ∧ (m < 128 → o = q + 5 * m) ∧ Below w.heap.size w wr ∧ Blk wr (w.heap.size + 1) .u32 256 (fun j => if j < 2 * m then (524288 - ubits b 640 20 j) * 4193792 % 8380417 else 0) 82 ∧ Blk wr w.heap.size .u32 256 (fun _ => 0) 82) (fun i _ _ => 256 - (intOf i).toNat)
  case atStart => exact ⟨0, q, by omega, rfl, rfl, fun _ => by omega, (((Below.refl _ _).alloc (Nat.le_refl _) _).alloc (by first | omega | (simp; done) | (simp; omega)) _), (Blk.new _ _ _ _ _ (by first | omega | (simp; done) | (simp; omega))).start _, (Blk.new _ _ _ _ _ rfl).alloc _⟩
  case round =>
    obtain ⟨m, o, hm, rfl, rfl, ho, hbe, h1, h0⟩ := hrel
    by_cases hlt : m < 128
    · obtain rfl := ho hlt
      clear ho
      have hr := HR.out.below hbe
      have c0 := hr.rowz (5 * m) (by omega)
      have c1 := hr.rowa (5 * m) 1 (by omega)
      have c2 := hr.rowa (5 * m) 2 (by omega)
      have c3 := hr.rowa (5 * m) 3 (by omega)
      have c4 := hr.rowa (5 * m) 4 (by omega)
      obtain ⟨b00, b01⟩ := HB.out (5 * m) (by omega)
      obtain ⟨b10, b11⟩ := HB.out (5 * m + 1) (by omega)
      obtain ⟨b20, b21⟩ := HB.out (5 * m + 2) (by omega)
      obtain ⟨b30, b31⟩ := HB.out (5 * m + 3) (by omega)
      obtain ⟨b40, b41⟩ := HB.out (5 * m + 4) (by omega)
      have hw0 := w20_0 b m hlt HB.out
      have hw1 := w20_1 b m hlt HB.out
      obtain ⟨hu0, hu1⟩ := ubits_bd b 640 20 (2 * m)
      obtain ⟨hv0, hv1⟩ := ubits_bd b 640 20 (2 * m + 1)
      rw [show (2 : Int) ^ 20 = 1048576 from rfl] at hu1 hv1
      have hc0 := h1.cell (i := 2 * m) (by omega)
      have hf0 := h1.frozen (2 * m)
      go_wp2_with fail
      go_quiet (fail)
      go_wp2_with fail
      refine (subToMont _ _ _ (by omega) (by omega) hu0 (by omega)).mono ?_
      rintro e w' ⟨rfl, rfl⟩
      go_wp2_with fail
      obtain ⟨W1, hW1⟩ : ∃ W1, W1 = (wr.drewN nq).setCell ⟨w.heap.size + 1, 2 * m, none⟩ (.int .u32 ((524288 - ubits b 640 20 (2 * m)) * 4193792 % 8380417)) := ⟨_, rfl⟩
      rw [← hW1]
      have hbe2 : Below w.heap.size w W1 := by rw [hW1]; exact (below_drewN hbe nq).setCell (by first | omega | (simp; done) | (simp; omega)) _
      have h2 : Blk W1 (w.heap.size + 1) .u32 256 (fun j => if j < 2 * m + 1 then (524288 - ubits b 640 20 j) * 4193792 % 8380417 else 0) 82 := by rw [hW1]; exact Blk.fill (f := fun j => (524288 - ubits b 640 20 j) * 4193792 % 8380417) (h1.drewN nq)
      have h0 : Blk W1 w.heap.size .u32 256 (fun _ => 0) 82 := by rw [hW1]; exact (h0.drewN nq).other _ _ (by first | omega | (simp; done) | (simp; omega))
      clear hW1 c0 c1 c2 c3 c4 h1 hbe hr hc0 hf0
      have hr := HR.out.below hbe2
      have c2 := hr.rowa (5 * m) 2 (by omega)
      have c3 := hr.rowa (5 * m) 3 (by omega)
      have c4 := hr.rowa (5 * m) 4 (by omega)
      have hc1 := h2.cell (i := 2 * m + 1) (by omega)
      have hf1 := h2.frozen (2 * m + 1)
      go_quiet (fail)
      go_wp2_with fail
      refine (subToMont _ _ _ (by omega) (by omega) hv0 (by omega)).mono ?_
      rintro e w' ⟨rfl, rfl⟩
      go_wp2_with fail
      go_roundw
      case rel => exact ⟨m + 1, if c - 5 * m = 5 then q + 5 * m else q + 5 * m + 5, by omega, by go_num, by rw [show 640 - 5 * m - 5 = 640 - 5 * (m + 1) from by omega, show c - 5 * m - 5 = c - 5 * (m + 1) from by omega]; split <;> rfl, fun h => by rw [if_neg (by omega)]; omega, (below_drewN hbe2 _).setCell (by first | omega | (simp; done) | (simp; omega)) _, Blk.fill (f := fun j => (524288 - ubits b 640 20 j) * 4193792 % 8380417) (h2.drewN _), (h0.drewN _).other _ _ (by first | omega | (simp; done) | (simp; omega))⟩
      case measure => simp [intOf]; omega
    · obtain rfl : m = 128 := by omega
      have h1 := Blk.full h1
      go_wp2_with (first | (with_reducible refine at_load 82 _ rfl ?_; refine wpList_load_arr Tryd.underlying82 iR rfl _ rfl _ rfl (h1) ?_) | (with_reducible refine at_store 82 _ _ rfl ?_; refine wpList_store_arr iR rfl _ _ rfl _ rfl rfl (h0) ?_))
      exact bodyPost_ret (v := .agg (arr .u32 256 fun i => (524288 - ubits b 640 20 i) * 4193792 % 8380417)) (results_arr Tryd.underlying82 iR rfl _ _ _ rfl (h0.row _ _)) rfl ⟨rfl, below_setRow hbe (by first | omega | (simp; done) | (simp; omega)) _⟩

end Go.Proofs.YtanfpnidlgejhaaDoor
