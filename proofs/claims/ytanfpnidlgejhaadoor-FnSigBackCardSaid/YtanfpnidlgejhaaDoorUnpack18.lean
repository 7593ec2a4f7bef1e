/-
  Bytes read as numbers of 18 bits.
-/
import Derived.Test.YtanfpnidlgejhaaDoorUnpack3
namespace Go.Proofs.YtanfpnidlgejhaaDoor
open Go.RowKit

theorem w18_0 (b : Nat → Int) (m : Nat) (hm : m < 64) (hb : ∀ i, i < 576 → 0 ≤ b i ∧ b i < 256) : bits .and .u32 (bits .or .u32 (bits .or .u32 (b (9 * m)) (b (9 * m + 1) * 256)) (b (9 * m + 2) * 65536)) 262143 = ubits b 576 18 (4 * m) := by
  obtain ⟨b00, b01⟩ := hb (9 * m) (by omega)
  obtain ⟨b10, b11⟩ := hb (9 * m + 1) (by omega)
  obtain ⟨b20, b21⟩ := hb (9 * m + 2) (by omega)
  have h0 := byte_at b 576 hb (9 * m) 0 (by omega)
  have h1 := byte_at b 576 hb (9 * m) 1 (by omega)
  have h2 := byte_at b 576 hb (9 * m) 2 (by omega)
  have e := or3 (b (9 * m)) (b (9 * m + 1)) (b (9 * m + 2)) 8 16 (by omega) (by omega) (by omega) (by omega) (by omega) (by omega)
  rw [show (2 : Int) ^ 8 = 256 from rfl, show (2 : Int) ^ 16 = 65536 from rfl] at e
  rw [e]
  have em := u32_mask 18 (b (9 * m) + b (9 * m + 1) * 256 + b (9 * m + 2) * 65536) (by omega) (by omega) (by decide)
  rw [show ((2 ^ 18 - 1 : Nat) : Int) = 262143 from rfl, show ((2 ^ 18 : Nat) : Int) = 262144 from rfl] at em
  rw [em]
  unfold ubits
  rw [show 18 * (4 * m) = 8 * (9 * m) from by omega]
  generalize dn 8 b 576 / 2 ^ (8 * (9 * m)) = X at *
  rw [show (2 : Int) ^ 18 = 262144 from rfl]
  skip
  simp only [Nat.mul_zero, Int.pow_zero, Int.ediv_one, Nat.add_zero] at h0
  rw [show (2 : Int) ^ (8 * 1) = 256 from rfl] at h1
  rw [show (2 : Int) ^ (8 * 2) = 65536 from rfl] at h2
  omega

theorem w18_1 (b : Nat → Int) (m : Nat) (hm : m < 64) (hb : ∀ i, i < 576 → 0 ≤ b i ∧ b i < 256) : bits .and .u32 (bits .or .u32 (bits .or .u32 (b (9 * m + 2) / 4) (b (9 * m + 3) * 64)) (b (9 * m + 4) * 16384)) 262143 = ubits b 576 18 (4 * m + 1) := by
  obtain ⟨b20, b21⟩ := hb (9 * m + 2) (by omega)
  obtain ⟨b30, b31⟩ := hb (9 * m + 3) (by omega)
  obtain ⟨b40, b41⟩ := hb (9 * m + 4) (by omega)
  have h2 := byte_at b 576 hb (9 * m) 2 (by omega)
  have h3 := byte_at b 576 hb (9 * m) 3 (by omega)
  have h4 := byte_at b 576 hb (9 * m) 4 (by omega)
  have e := or3 (b (9 * m + 2) / 4) (b (9 * m + 3)) (b (9 * m + 4)) 6 14 (by omega) (by omega) (by omega) (by omega) (by omega) (by omega)
  rw [show (2 : Int) ^ 6 = 64 from rfl, show (2 : Int) ^ 14 = 16384 from rfl] at e
  rw [e]
  have em := u32_mask 18 (b (9 * m + 2) / 4 + b (9 * m + 3) * 64 + b (9 * m + 4) * 16384) (by omega) (by omega) (by decide)
  rw [show ((2 ^ 18 - 1 : Nat) : Int) = 262143 from rfl, show ((2 ^ 18 : Nat) : Int) = 262144 from rfl] at em
  rw [em]
  unfold ubits
  rw [show 18 * (4 * m + 1) = 8 * (9 * m) + 18 from by omega, div_pow]
  generalize dn 8 b 576 / 2 ^ (8 * (9 * m)) = X at *
  rw [show (2 : Int) ^ 18 = 262144 from rfl]
  skip
  rw [show (2 : Int) ^ (8 * 2) = 65536 from rfl] at h2
  rw [show (2 : Int) ^ (8 * 3) = 16777216 from rfl] at h3
  rw [show (2 : Int) ^ (8 * 4) = 4294967296 from rfl] at h4
  omega

theorem w18_2 (b : Nat → Int) (m : Nat) (hm : m < 64) (hb : ∀ i, i < 576 → 0 ≤ b i ∧ b i < 256) : bits .and .u32 (bits .or .u32 (bits .or .u32 (b (9 * m + 4) / 16) (b (9 * m + 5) * 16)) (b (9 * m + 6) * 4096)) 262143 = ubits b 576 18 (4 * m + 2) := by
  obtain ⟨b40, b41⟩ := hb (9 * m + 4) (by omega)
  obtain ⟨b50, b51⟩ := hb (9 * m + 5) (by omega)
  obtain ⟨b60, b61⟩ := hb (9 * m + 6) (by omega)
  have h4 := byte_at b 576 hb (9 * m) 4 (by omega)
  have h5 := byte_at b 576 hb (9 * m) 5 (by omega)
  have h6 := byte_at b 576 hb (9 * m) 6 (by omega)
  have e := or3 (b (9 * m + 4) / 16) (b (9 * m + 5)) (b (9 * m + 6)) 4 12 (by omega) (by omega) (by omega) (by omega) (by omega) (by omega)
  rw [show (2 : Int) ^ 4 = 16 from rfl, show (2 : Int) ^ 12 = 4096 from rfl] at e
  rw [e]
  have em := u32_mask 18 (b (9 * m + 4) / 16 + b (9 * m + 5) * 16 + b (9 * m + 6) * 4096) (by omega) (by omega) (by decide)
  rw [show ((2 ^ 18 - 1 : Nat) : Int) = 262143 from rfl, show ((2 ^ 18 : Nat) : Int) = 262144 from rfl] at em
  rw [em]
  unfold ubits
  rw [show 18 * (4 * m + 2) = 8 * (9 * m) + 36 from by omega, div_pow]
  generalize dn 8 b 576 / 2 ^ (8 * (9 * m)) = X at *
  rw [show (2 : Int) ^ 18 = 262144 from rfl]
  rw [show (2 : Int) ^ 36 = 68719476736 from rfl]
  rw [show (2 : Int) ^ (8 * 4) = 4294967296 from rfl] at h4
  rw [show (2 : Int) ^ (8 * 5) = 1099511627776 from rfl] at h5
  rw [show (2 : Int) ^ (8 * 6) = 281474976710656 from rfl] at h6
  omega

theorem w18_3 (b : Nat → Int) (m : Nat) (hm : m < 64) (hb : ∀ i, i < 576 → 0 ≤ b i ∧ b i < 256) : bits .and .u32 (bits .or .u32 (bits .or .u32 (b (9 * m + 6) / 64) (b (9 * m + 7) * 4)) (b (9 * m + 8) * 1024)) 262143 = ubits b 576 18 (4 * m + 3) := by
  obtain ⟨b60, b61⟩ := hb (9 * m + 6) (by omega)
  obtain ⟨b70, b71⟩ := hb (9 * m + 7) (by omega)
  obtain ⟨b80, b81⟩ := hb (9 * m + 8) (by omega)
  have h6 := byte_at b 576 hb (9 * m) 6 (by omega)
  have h7 := byte_at b 576 hb (9 * m) 7 (by omega)
  have h8 := byte_at b 576 hb (9 * m) 8 (by omega)
  have e := or3 (b (9 * m + 6) / 64) (b (9 * m + 7)) (b (9 * m + 8)) 2 10 (by omega) (by omega) (by omega) (by omega) (by omega) (by omega)
  rw [show (2 : Int) ^ 2 = 4 from rfl, show (2 : Int) ^ 10 = 1024 from rfl] at e
  rw [e]
  have em := u32_mask 18 (b (9 * m + 6) / 64 + b (9 * m + 7) * 4 + b (9 * m + 8) * 1024) (by omega) (by omega) (by decide)
  rw [show ((2 ^ 18 - 1 : Nat) : Int) = 262143 from rfl, show ((2 ^ 18 : Nat) : Int) = 262144 from rfl] at em
  rw [em]
  unfold ubits
  rw [show 18 * (4 * m + 3) = 8 * (9 * m) + 54 from by omega, div_pow]
  generalize dn 8 b 576 / 2 ^ (8 * (9 * m)) = X at *
  rw [show (2 : Int) ^ 18 = 262144 from rfl]
  rw [show (2 : Int) ^ 54 = 18014398509481984 from rfl]
  rw [show (2 : Int) ^ (8 * 6) = 281474976710656 from rfl] at h6
  rw [show (2 : Int) ^ (8 * 7) = 72057594037927936 from rfl] at h7
  rw [show (2 : Int) ^ (8 * 8) = 18446744073709551616 from rfl] at h8
  omega

set_option maxRecDepth 100000 in
set_option maxHeartbeats 1000000 in
theorem unpack18 (g q c : Nat) (b : Nat → Int) (w : World) (hc : 576 ≤ c) (_hcm : c ≤ maxLen) (hr : Rd .u8 w ⟨g, q, none⟩ 576 b) (hb : ∀ i, i < 576 → 0 ≤ b i ∧ b i < 256) :
    Calls Tryd.prog 51 #[.slice (some ⟨g, q, none⟩) 576 c] w fun e w' => e = .returned (.agg (arr .u32 256 fun i => (131072 - ubits b 576 18 i) * 4193792 % 8380417)) ∧ Below w.heap.size w w' := by
  have HB := Lib.hid hb; clear hb
  have HR := Lib.hid hr; clear hr
  go_enter Tryd.func51, Tryd.ntmps51
  go_wp2_with fail
  go_loopw [4, 0] (fun i v wr => ∃ m o : Nat, m ≤ 64 ∧ i = .int .i64 ((4 * m : Nat) : Int) ∧ v = .slice (some ⟨g, o, none⟩) (576 - 9 * m) (c - 9 * m) ∧ (m < 64 → o = q + 9 * m) ∧ Below w.heap.size w wr ∧ Blk wr (w.heap.size + 1) .u32 256 (fun j => if j < 4 * m then (131072 - ubits b 576 18 j) * 4193792 % 8380417 else 0) 82 ∧ Blk wr w.heap.size .u32 256 (fun _ => 0) 82) (fun i _ _ => 256 - (intOf i).toNat)
  case atStart => exact ⟨0, q, by omega, rfl, rfl, fun _ => by omega, (((Below.refl _ _).alloc (Nat.le_refl _) _).alloc (by first | omega | (simp; done) | (simp; omega)) _), (Blk.new _ _ _ _ _ (by first | omega | (simp; done) | (simp; omega))).start _, (Blk.new _ _ _ _ _ rfl).alloc _⟩
  case round =>
    obtain ⟨m, o, hm, rfl, rfl, ho, hbe, h1, h0⟩ := hrel
    by_cases hlt : m < 64
    · obtain rfl := ho hlt
      clear ho
      have hr := HR.out.below hbe
      have B8 := Lib.hid (fun j (hj : j < 9) => HB.out (9 * m + j) (by omega))
      obtain ⟨b00, b01⟩ := HB.out (9 * m) (by omega)
      obtain ⟨b10, b11⟩ := HB.out (9 * m + 1) (by omega)
      obtain ⟨b20, b21⟩ := HB.out (9 * m + 2) (by omega)
      obtain ⟨b30, b31⟩ := HB.out (9 * m + 3) (by omega)
      obtain ⟨b40, b41⟩ := HB.out (9 * m + 4) (by omega)
      obtain ⟨b50, b51⟩ := HB.out (9 * m + 5) (by omega)
      obtain ⟨b60, b61⟩ := HB.out (9 * m + 6) (by omega)
      obtain ⟨b70, b71⟩ := HB.out (9 * m + 7) (by omega)
      obtain ⟨b80, b81⟩ := HB.out (9 * m + 8) (by omega)
      have c0 := hr.rowz (9 * m) (by omega)
      have c1 := hr.rowa (9 * m) 1 (by omega)
      have c2 := hr.rowa (9 * m) 2 (by omega)
      have hw := w18_0 b m hlt HB.out
      obtain ⟨hu0, hu1⟩ := ubits_bd b 576 18 (4 * m)
      rw [show (2 : Int) ^ 18 = 262144 from rfl] at hu1
      have hc := h1.cell (i := 4 * m) (by omega)
      have hf := h1.frozen (4 * m)
      go_wp2_with fail
      go_quiet (fail)
      go_wp2_with fail
      refine (subToMont _ _ _ (by omega) (by omega) hu0 (by omega)).mono ?_
      rintro e w' ⟨rfl, rfl⟩
      go_wp2_with fail
      obtain ⟨W1, hW1⟩ : ∃ V, V = (wr.drewN nq).setCell ⟨w.heap.size + 1, 4 * m, none⟩ (.int .u32 ((131072 - ubits b 576 18 (4 * m)) * 4193792 % 8380417)) := ⟨_, rfl⟩
      rw [← hW1]
      have hbe2 : Below w.heap.size w W1 := by rw [hW1]; exact (below_drewN hbe nq).setCell (by first | omega | (simp; done) | (simp; omega)) _
      have h2 : Blk W1 (w.heap.size + 1) .u32 256 (fun j => if j < 4 * m + 1 then (131072 - ubits b 576 18 j) * 4193792 % 8380417 else 0) 82 := by rw [hW1]; exact Blk.fill (f := fun j => (131072 - ubits b 576 18 j) * 4193792 % 8380417) (h1.drewN nq)
      have h3 : Blk W1 w.heap.size .u32 256 (fun _ => 0) 82 := by rw [hW1]; exact (h0.drewN nq).other _ _ (by first | omega | (simp; done) | (simp; omega))
      clear hW1 c0 c1 c2 h1 h0 hbe hr hc hf hw hu0 hu1
      have hbe := hbe2; clear hbe2
      have h1 := h2; clear h2
      have h0 := h3; clear h3
      have hr := HR.out.below hbe
      have c2 := hr.rowa (9 * m) 2 (by omega)
      have c3 := hr.rowa (9 * m) 3 (by omega)
      have c4 := hr.rowa (9 * m) 4 (by omega)
      have hw := w18_1 b m hlt HB.out
      obtain ⟨hu0, hu1⟩ := ubits_bd b 576 18 (4 * m + 1)
      rw [show (2 : Int) ^ 18 = 262144 from rfl] at hu1
      have hc := h1.cell (i := 4 * m + 1) (by omega)
      have hf := h1.frozen (4 * m + 1)
      go_quiet (fail)
      go_wp2_with fail
      refine (subToMont _ _ _ (by omega) (by omega) hu0 (by omega)).mono ?_
      rintro e w' ⟨rfl, rfl⟩
      go_wp2_with fail
      obtain ⟨W2, hW1⟩ : ∃ V, V = (W1.drewN nq).setCell ⟨w.heap.size + 1, 4 * m + 1, none⟩ (.int .u32 ((131072 - ubits b 576 18 (4 * m + 1)) * 4193792 % 8380417)) := ⟨_, rfl⟩
      rw [← hW1]
      have hbe2 : Below w.heap.size w W2 := by rw [hW1]; exact (below_drewN hbe nq).setCell (by first | omega | (simp; done) | (simp; omega)) _
      have h2 : Blk W2 (w.heap.size + 1) .u32 256 (fun j => if j < 4 * m + 1 + 1 then (131072 - ubits b 576 18 j) * 4193792 % 8380417 else 0) 82 := by rw [hW1]; exact Blk.fill (f := fun j => (131072 - ubits b 576 18 j) * 4193792 % 8380417) (h1.drewN nq)
      have h3 : Blk W2 w.heap.size .u32 256 (fun _ => 0) 82 := by rw [hW1]; exact (h0.drewN nq).other _ _ (by first | omega | (simp; done) | (simp; omega))
      clear hW1 c2 c3 c4 h1 h0 hbe hr hc hf hw hu0 hu1
      have hbe := hbe2; clear hbe2
      have h1 := h2; clear h2
      have h0 := h3; clear h3
      have hr := HR.out.below hbe
      have c4 := hr.rowa (9 * m) 4 (by omega)
      have c5 := hr.rowa (9 * m) 5 (by omega)
      have c6 := hr.rowa (9 * m) 6 (by omega)
      have hw := w18_2 b m hlt HB.out
      obtain ⟨hu0, hu1⟩ := ubits_bd b 576 18 (4 * m + 2)
      rw [show (2 : Int) ^ 18 = 262144 from rfl] at hu1
      have hc := h1.cell (i := 4 * m + 2) (by omega)
      have hf := h1.frozen (4 * m + 2)
      go_quiet (fail)
      go_wp2_with fail
      refine (subToMont _ _ _ (by omega) (by omega) hu0 (by omega)).mono ?_
      rintro e w' ⟨rfl, rfl⟩
      go_wp2_with fail
      obtain ⟨W3, hW1⟩ : ∃ V, V = (W2.drewN nq).setCell ⟨w.heap.size + 1, 4 * m + 2, none⟩ (.int .u32 ((131072 - ubits b 576 18 (4 * m + 2)) * 4193792 % 8380417)) := ⟨_, rfl⟩
      rw [← hW1]
      have hbe2 : Below w.heap.size w W3 := by rw [hW1]; exact (below_drewN hbe nq).setCell (by first | omega | (simp; done) | (simp; omega)) _
      have h2 : Blk W3 (w.heap.size + 1) .u32 256 (fun j => if j < 4 * m + 2 + 1 then (131072 - ubits b 576 18 j) * 4193792 % 8380417 else 0) 82 := by rw [hW1]; exact Blk.fill (f := fun j => (131072 - ubits b 576 18 j) * 4193792 % 8380417) (h1.drewN nq)
      have h3 : Blk W3 w.heap.size .u32 256 (fun _ => 0) 82 := by rw [hW1]; exact (h0.drewN nq).other _ _ (by first | omega | (simp; done) | (simp; omega))
      clear hW1 c4 c5 c6 h1 h0 hbe hr hc hf hw hu0 hu1
      have hbe := hbe2; clear hbe2
      have h1 := h2; clear h2
      have h0 := h3; clear h3
      have hr := HR.out.below hbe
      have c6 := hr.rowa (9 * m) 6 (by omega)
      have c7 := hr.rowa (9 * m) 7 (by omega)
      have c8 := hr.rowa (9 * m) 8 (by omega)
      have hw := w18_3 b m hlt HB.out
      obtain ⟨hu0, hu1⟩ := ubits_bd b 576 18 (4 * m + 3)
      rw [show (2 : Int) ^ 18 = 262144 from rfl] at hu1
      have hc := h1.cell (i := 4 * m + 3) (by omega)
      have hf := h1.frozen (4 * m + 3)
      go_quiet (fail)
      go_wp2_with fail
      refine (subToMont _ _ _ (by omega) (by omega) hu0 (by omega)).mono ?_
      rintro e w' ⟨rfl, rfl⟩
      go_wp2_with fail
      go_roundw
      case rel => exact ⟨m + 1, if c - 9 * m = 9 then q + 9 * m else q + 9 * m + 9, by omega, by go_num, by rw [show 576 - 9 * m - 9 = 576 - 9 * (m + 1) from by omega, show c - 9 * m - 9 = c - 9 * (m + 1) from by omega]; split <;> rfl, fun h => by rw [if_neg (by omega)]; omega, (below_drewN hbe _).setCell (by first | omega | (simp; done) | (simp; omega)) _, Blk.fill (f := fun j => (131072 - ubits b 576 18 j) * 4193792 % 8380417) (h1.drewN _), (h0.drewN _).other _ _ (by first | omega | (simp; done) | (simp; omega))⟩
      case measure => simp [intOf]; omega
    · obtain rfl : m = 64 := by omega
      have h1 := Blk.full h1
      go_wp2_with (first | (with_reducible refine at_load 82 _ rfl ?_; refine wpList_load_arr Tryd.underlying82 iR rfl _ rfl _ rfl (h1) ?_) | (with_reducible refine at_store 82 _ _ rfl ?_; refine wpList_store_arr iR rfl _ _ rfl _ rfl rfl (h0) ?_))
      exact bodyPost_ret (v := .agg (arr .u32 256 fun i => (131072 - ubits b 576 18 i) * 4193792 % 8380417)) (results_arr Tryd.underlying82 iR rfl _ _ _ rfl (h0.row _ _)) rfl ⟨rfl, below_setRow hbe (by first | omega | (simp; done) | (simp; omega)) _⟩



end Go.Proofs.YtanfpnidlgejhaaDoor
