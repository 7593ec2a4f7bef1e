/-
  Numbers packed as bytes.
-/
import Derived.Test.YtanfpnidlgejhaaDoorRing
import Derived.Test.YtanfpnidlgejhaaDoorMem
import Derived.Test.YtanfpnidlgejhaaDoorPackN
import Derived.Test.YtanfpnidlgejhaaDoorUnpack3
namespace Go.Proofs.YtanfpnidlgejhaaDoor
open Go.RowKit

theorem Blk.rd {w : World} {g : Nat} {k : IntKind} {c n L : Nat} {z b : Nat → Int} {t : TypeId} (h : Blk w g k c z t) (hc : L + n ≤ c) (e : ∀ j, j < n → z (L + j) = b j) : Rd k w ⟨g, L, none⟩ n b := fun j hj => by
  rw [Addr.add_at, h.cell (by omega), e j hj]
theorem dn_two (d : Nat) (f : Nat → Int) (hf : ∀ i, i < 256 → 0 ≤ f i ∧ f i < 2 ^ d) (i : Nat) (hi : i < 256) (p : Nat) (hp : p = d * i) : dn d f 256 / 2 ^ p % 2 ^ d = f i := by subst hp; exact dn_div d f 256 hf i hi

theorem pb20 (f : Nat → Int) (hf : ∀ i, i < 256 → 0 ≤ f i ∧ f i < 1048576) (m : Nat) (hm : m < 128) : pby 20 f 256 (5 * m + 0) = f (2 * m) % 256 ∧ pby 20 f 256 (5 * m + 1) = f (2 * m) / 256 % 256 ∧ pby 20 f 256 (5 * m + 2) = f (2 * m) / 65536 + f (2 * m + 1) % 16 * 16 ∧ pby 20 f 256 (5 * m + 3) = f (2 * m + 1) / 16 % 256 ∧ pby 20 f 256 (5 * m + 4) = f (2 * m + 1) / 4096 := by
  obtain ⟨f00, f01⟩ := hf (2 * m) (by omega)
  obtain ⟨f10, f11⟩ := hf (2 * m + 1) (by omega)
  have h0 := dn_two 20 f hf (2 * m) (by omega) (8 * (5 * m) + 0) (by omega)
  rw [div_pow] at h0
  have h1 := dn_two 20 f hf (2 * m + 1) (by omega) (8 * (5 * m) + 20) (by omega)
  rw [div_pow] at h1
  unfold pby
  rw [show 8 * (5 * m + 0) = 8 * (5 * m) + 0 from by omega, div_pow _ (8 * (5 * m)) 0]
  rw [show 8 * (5 * m + 1) = 8 * (5 * m) + 8 from by omega, div_pow _ (8 * (5 * m)) 8]
  rw [show 8 * (5 * m + 2) = 8 * (5 * m) + 16 from by omega, div_pow _ (8 * (5 * m)) 16]
  rw [show 8 * (5 * m + 3) = 8 * (5 * m) + 24 from by omega, div_pow _ (8 * (5 * m)) 24]
  rw [show 8 * (5 * m + 4) = 8 * (5 * m) + 32 from by omega, div_pow _ (8 * (5 * m)) 32]
  generalize dn 20 f 256 / 2 ^ (8 * (5 * m)) = X at *
  generalize f (2 * m) = y0 at *
  generalize f (2 * m + 1) = y1 at *
  simp only [show (2 : Int) ^ 0 = 1 from rfl, show (2 : Int) ^ 8 = 256 from rfl, show (2 : Int) ^ 16 = 65536 from rfl, show (2 : Int) ^ 20 = 1048576 from rfl, show (2 : Int) ^ 24 = 16777216 from rfl, show (2 : Int) ^ 32 = 4294967296 from rfl, Int.ediv_one] at *
  refine ⟨?_, ?_, ?_, ?_, ?_⟩ <;> omega
theorem pb18 (f : Nat → Int) (hf : ∀ i, i < 256 → 0 ≤ f i ∧ f i < 262144) (m : Nat) (hm : m < 64) : pby 18 f 256 (9 * m + 0) = f (4 * m) % 256 ∧ pby 18 f 256 (9 * m + 1) = f (4 * m) / 256 % 256 ∧ pby 18 f 256 (9 * m + 2) = f (4 * m) / 65536 + f (4 * m + 1) % 64 * 4 ∧ pby 18 f 256 (9 * m + 3) = f (4 * m + 1) / 64 % 256 ∧ pby 18 f 256 (9 * m + 4) = f (4 * m + 1) / 16384 + f (4 * m + 2) % 16 * 16 ∧ pby 18 f 256 (9 * m + 5) = f (4 * m + 2) / 16 % 256 ∧ pby 18 f 256 (9 * m + 6) = f (4 * m + 2) / 4096 + f (4 * m + 3) % 4 * 64 ∧ pby 18 f 256 (9 * m + 7) = f (4 * m + 3) / 4 % 256 ∧ pby 18 f 256 (9 * m + 8) = f (4 * m + 3) / 1024 := by
  obtain ⟨f00, f01⟩ := hf (4 * m) (by omega)
  obtain ⟨f10, f11⟩ := hf (4 * m + 1) (by omega)
  obtain ⟨f20, f21⟩ := hf (4 * m + 2) (by omega)
  obtain ⟨f30, f31⟩ := hf (4 * m + 3) (by omega)
  have h0 := dn_two 18 f hf (4 * m) (by omega) (8 * (9 * m) + 0) (by omega)
  rw [div_pow] at h0
  have h1 := dn_two 18 f hf (4 * m + 1) (by omega) (8 * (9 * m) + 18) (by omega)
  rw [div_pow] at h1
  have h2 := dn_two 18 f hf (4 * m + 2) (by omega) (8 * (9 * m) + 36) (by omega)
  rw [div_pow] at h2
  have h3 := dn_two 18 f hf (4 * m + 3) (by omega) (8 * (9 * m) + 54) (by omega)
  rw [div_pow] at h3
  unfold pby
  rw [show 8 * (9 * m + 0) = 8 * (9 * m) + 0 from by omega, div_pow _ (8 * (9 * m)) 0]
  rw [show 8 * (9 * m + 1) = 8 * (9 * m) + 8 from by omega, div_pow _ (8 * (9 * m)) 8]
  rw [show 8 * (9 * m + 2) = 8 * (9 * m) + 16 from by omega, div_pow _ (8 * (9 * m)) 16]
  rw [show 8 * (9 * m + 3) = 8 * (9 * m) + 24 from by omega, div_pow _ (8 * (9 * m)) 24]
  rw [show 8 * (9 * m + 4) = 8 * (9 * m) + 32 from by omega, div_pow _ (8 * (9 * m)) 32]
  rw [show 8 * (9 * m + 5) = 8 * (9 * m) + 40 from by omega, div_pow _ (8 * (9 * m)) 40]
  rw [show 8 * (9 * m + 6) = 8 * (9 * m) + 48 from by omega, div_pow _ (8 * (9 * m)) 48]
  rw [show 8 * (9 * m + 7) = 8 * (9 * m) + 56 from by omega, div_pow _ (8 * (9 * m)) 56]
  rw [show 8 * (9 * m + 8) = 8 * (9 * m) + 64 from by omega, div_pow _ (8 * (9 * m)) 64]
  generalize dn 18 f 256 / 2 ^ (8 * (9 * m)) = X at *
  generalize f (4 * m) = y0 at *
  generalize f (4 * m + 1) = y1 at *
  generalize f (4 * m + 2) = y2 at *
  generalize f (4 * m + 3) = y3 at *
  simp only [show (2 : Int) ^ 0 = 1 from rfl, show (2 : Int) ^ 8 = 256 from rfl, show (2 : Int) ^ 16 = 65536 from rfl, show (2 : Int) ^ 18 = 262144 from rfl, show (2 : Int) ^ 24 = 16777216 from rfl, show (2 : Int) ^ 32 = 4294967296 from rfl, show (2 : Int) ^ 36 = 68719476736 from rfl, show (2 : Int) ^ 40 = 1099511627776 from rfl, show (2 : Int) ^ 48 = 281474976710656 from rfl, show (2 : Int) ^ 54 = 18014398509481984 from rfl, show (2 : Int) ^ 56 = 72057594037927936 from rfl, show (2 : Int) ^ 64 = 18446744073709551616 from rfl, Int.ediv_one] at *
  refine ⟨?_, ?_, ?_, ?_, ?_, ?_, ?_, ?_, ?_⟩ <;> omega
theorem pkc20 (f zz : Nat → Int) (hf : ∀ i, i < 256 → 0 ≤ f i ∧ f i < 1048576) (L m j : Nat) (hm : m < 128) :
    (if j = L + 5 * m + 4 then f (2 * m + 1) / 4096 else if j = L + 5 * m + 3 then f (2 * m + 1) / 16 % 256 else if j = L + 5 * m + 2 then bits .or .u8 (f (2 * m) / 65536) (f (2 * m + 1) * 16 % 256) else if j = L + 5 * m + 2 then f (2 * m) / 65536 else if j = L + 5 * m + 1 then f (2 * m) / 256 % 256 else if j = L + 5 * m then f (2 * m) % 256 else if L ≤ j ∧ j < L + 5 * m then pby 20 f 256 (j - L) else zz j) = if L ≤ j ∧ j < L + 5 * (m + 1) then pby 20 f 256 (j - L) else zz j := by
  obtain ⟨p0, p1, p2, p3, p4⟩ := pb20 f hf m hm
  obtain ⟨f00, f01⟩ := hf (2 * m) (by omega)
  obtain ⟨f10, f11⟩ := hf (2 * m + 1) (by omega)
  have o2 : bits .or .u8 (f (2 * m) / 65536) (f (2 * m + 1) * 16 % 256) = f (2 * m) / 65536 + f (2 * m + 1) % 16 * 16 := by
    rw [show f (2 * m + 1) * 16 % 256 = f (2 * m + 1) % 16 * 2 ^ 4 by omega, u8_or 4 _ _ (by omega) (by omega) (by omega) (by omega)]
    omega
  by_cases hj : L ≤ j ∧ j < L + 5 * m
  · rw [if_neg (by omega)]
    rw [if_neg (by omega)]
    rw [if_neg (by omega)]
    rw [if_neg (by omega)]
    rw [if_neg (by omega)]
    rw [if_neg (by omega)]
    rw [if_pos hj, if_pos (by omega)]
  by_cases hj2 : j < L ∨ L + 5 * (m + 1) ≤ j
  · rw [if_neg (by omega)]
    rw [if_neg (by omega)]
    rw [if_neg (by omega)]
    rw [if_neg (by omega)]
    rw [if_neg (by omega)]
    rw [if_neg (by omega)]
    rw [if_neg hj, if_neg (by omega)]
  rw [if_pos (show L ≤ j ∧ j < L + 5 * (m + 1) by omega)]
  by_cases e0 : j = L + 5 * m
  · rw [if_neg (by omega)]
    rw [if_neg (by omega)]
    rw [if_neg (by omega)]
    rw [if_neg (by omega)]
    rw [if_neg (by omega)]
    rw [if_pos e0, show j - L = 5 * m + 0 by omega, p0]
  by_cases e1 : j = L + 5 * m + 1
  · rw [if_neg (by omega)]
    rw [if_neg (by omega)]
    rw [if_neg (by omega)]
    rw [if_neg (by omega)]
    rw [if_pos e1, show j - L = 5 * m + 1 by omega, p1]
  by_cases e2 : j = L + 5 * m + 2
  · rw [if_neg (by omega)]
    rw [if_neg (by omega)]
    rw [if_pos e2, show j - L = 5 * m + 2 by omega, p2]
    exact o2
  by_cases e3 : j = L + 5 * m + 3
  · rw [if_neg (by omega)]
    rw [if_pos e3, show j - L = 5 * m + 3 by omega, p3]
  by_cases e4 : j = L + 5 * m + 4
  · rw [if_pos e4, show j - L = 5 * m + 4 by omega, p4]
  omega
theorem pkc18 (f zz : Nat → Int) (hf : ∀ i, i < 256 → 0 ≤ f i ∧ f i < 262144) (L m j : Nat) (hm : m < 64) :
    (if j = L + 9 * m + 8 then f (4 * m + 3) / 1024 else if j = L + 9 * m + 7 then f (4 * m + 3) / 4 % 256 else if j = L + 9 * m + 6 then bits .or .u8 (f (4 * m + 2) / 4096) (f (4 * m + 3) * 64 % 256) else if j = L + 9 * m + 6 then f (4 * m + 2) / 4096 else if j = L + 9 * m + 5 then f (4 * m + 2) / 16 % 256 else if j = L + 9 * m + 4 then bits .or .u8 (f (4 * m + 1) / 16384) (f (4 * m + 2) * 16 % 256) else if j = L + 9 * m + 4 then f (4 * m + 1) / 16384 else if j = L + 9 * m + 3 then f (4 * m + 1) / 64 % 256 else if j = L + 9 * m + 2 then bits .or .u8 (f (4 * m) / 65536) (f (4 * m + 1) * 4 % 256) else if j = L + 9 * m + 2 then f (4 * m) / 65536 else if j = L + 9 * m + 1 then f (4 * m) / 256 % 256 else if j = L + 9 * m then f (4 * m) % 256 else if L ≤ j ∧ j < L + 9 * m then pby 18 f 256 (j - L) else zz j) = if L ≤ j ∧ j < L + 9 * (m + 1) then pby 18 f 256 (j - L) else zz j := by
  obtain ⟨p0, p1, p2, p3, p4, p5, p6, p7, p8⟩ := pb18 f hf m hm
  obtain ⟨f00, f01⟩ := hf (4 * m) (by omega)
  obtain ⟨f10, f11⟩ := hf (4 * m + 1) (by omega)
  obtain ⟨f20, f21⟩ := hf (4 * m + 2) (by omega)
  obtain ⟨f30, f31⟩ := hf (4 * m + 3) (by omega)
  have o2 : bits .or .u8 (f (4 * m) / 65536) (f (4 * m + 1) * 4 % 256) = f (4 * m) / 65536 + f (4 * m + 1) % 64 * 4 := by
    rw [show f (4 * m + 1) * 4 % 256 = f (4 * m + 1) % 64 * 2 ^ 2 by omega, u8_or 2 _ _ (by omega) (by omega) (by omega) (by omega)]
    omega
  have o4 : bits .or .u8 (f (4 * m + 1) / 16384) (f (4 * m + 2) * 16 % 256) = f (4 * m + 1) / 16384 + f (4 * m + 2) % 16 * 16 := by
    rw [show f (4 * m + 2) * 16 % 256 = f (4 * m + 2) % 16 * 2 ^ 4 by omega, u8_or 4 _ _ (by omega) (by omega) (by omega) (by omega)]
    omega
  have o6 : bits .or .u8 (f (4 * m + 2) / 4096) (f (4 * m + 3) * 64 % 256) = f (4 * m + 2) / 4096 + f (4 * m + 3) % 4 * 64 := by
    rw [show f (4 * m + 3) * 64 % 256 = f (4 * m + 3) % 4 * 2 ^ 6 by omega, u8_or 6 _ _ (by omega) (by omega) (by omega) (by omega)]
    omega
  by_cases hj : L ≤ j ∧ j < L + 9 * m
  · rw [if_neg (by omega)]
    rw [if_neg (by omega)]
    rw [if_neg (by omega)]
    rw [if_neg (by omega)]
    rw [if_neg (by omega)]
    rw [if_neg (by omega)]
    rw [if_neg (by omega)]
    rw [if_neg (by omega)]
    rw [if_neg (by omega)]
    rw [if_neg (by omega)]
    rw [if_neg (by omega)]
    rw [if_neg (by omega)]
    rw [if_pos hj, if_pos (by omega)]
  by_cases hj2 : j < L ∨ L + 9 * (m + 1) ≤ j
  · rw [if_neg (by omega)]
    rw [if_neg (by omega)]
    rw [if_neg (by omega)]
    rw [if_neg (by omega)]
    rw [if_neg (by omega)]
    rw [if_neg (by omega)]
    rw [if_neg (by omega)]
    rw [if_neg (by omega)]
    rw [if_neg (by omega)]
    rw [if_neg (by omega)]
    rw [if_neg (by omega)]
    rw [if_neg (by omega)]
    rw [if_neg hj, if_neg (by omega)]
  rw [if_pos (show L ≤ j ∧ j < L + 9 * (m + 1) by omega)]
  by_cases e0 : j = L + 9 * m
  · rw [if_neg (by omega)]
    rw [if_neg (by omega)]
    rw [if_neg (by omega)]
    rw [if_neg (by omega)]
    rw [if_neg (by omega)]
    rw [if_neg (by omega)]
    rw [if_neg (by omega)]
    rw [if_neg (by omega)]
    rw [if_neg (by omega)]
    rw [if_neg (by omega)]
    rw [if_neg (by omega)]
    rw [if_pos e0, show j - L = 9 * m + 0 by omega, p0]
  by_cases e1 : j = L + 9 * m + 1
  · rw [if_neg (by omega)]
    rw [if_neg (by omega)]
    rw [if_neg (by omega)]
    rw [if_neg (by omega)]
    rw [if_neg (by omega)]
    rw [if_neg (by omega)]
    rw [if_neg (by omega)]
    rw [if_neg (by omega)]
    rw [if_neg (by omega)]
    rw [if_neg (by omega)]
    rw [if_pos e1, show j - L = 9 * m + 1 by omega, p1]
  by_cases e2 : j = L + 9 * m + 2
  · rw [if_neg (by omega)]
    rw [if_neg (by omega)]
    rw [if_neg (by omega)]
    rw [if_neg (by omega)]
    rw [if_neg (by omega)]
    rw [if_neg (by omega)]
    rw [if_neg (by omega)]
    rw [if_neg (by omega)]
    rw [if_pos e2, show j - L = 9 * m + 2 by omega, p2]
    exact o2
  by_cases e3 : j = L + 9 * m + 3
  · rw [if_neg (by omega)]
    rw [if_neg (by omega)]
    rw [if_neg (by omega)]
    rw [if_neg (by omega)]
    rw [if_neg (by omega)]
    rw [if_neg (by omega)]
    rw [if_neg (by omega)]
    rw [if_pos e3, show j - L = 9 * m + 3 by omega, p3]
  by_cases e4 : j = L + 9 * m + 4
  · rw [if_neg (by omega)]
    rw [if_neg (by omega)]
    rw [if_neg (by omega)]
    rw [if_neg (by omega)]
    rw [if_neg (by omega)]
    rw [if_pos e4, show j - L = 9 * m + 4 by omega, p4]
    exact o4
  by_cases e5 : j = L + 9 * m + 5
  · rw [if_neg (by omega)]
    rw [if_neg (by omega)]
    rw [if_neg (by omega)]
    rw [if_neg (by omega)]
    rw [if_pos e5, show j - L = 9 * m + 5 by omega, p5]
  by_cases e6 : j = L + 9 * m + 6
  · rw [if_neg (by omega)]
    rw [if_neg (by omega)]
    rw [if_pos e6, show j - L = 9 * m + 6 by omega, p6]
    exact o6
  by_cases e7 : j = L + 9 * m + 7
  · rw [if_neg (by omega)]
    rw [if_pos e7, show j - L = 9 * m + 7 by omega, p7]
  by_cases e8 : j = L + 9 * m + 8
  · rw [if_pos e8, show j - L = 9 * m + 8 by omega, p8]
  omega
set_option maxRecDepth 100000 in
set_option maxHeartbeats 1000000 in
theorem pack20 (B : Nat) (v : Value) (L : Nat) (z0 : Nat → Int) (r : Nat → Int) (w : World) (hB : B ≤ w.heap.size) (hL : L ≤ 65536) (hv : Buf B w v L 640 z0 5)
    (hr : ∀ i, i < 256 → 0 ≤ r i ∧ r i < 8380417) (hf : ∀ i, i < 256 → 0 ≤ 524288 - cen (mred (r i)) 8380417 ∧ 524288 - cen (mred (r i)) 8380417 < 1048576) :
    Calls Tryd.prog 55 #[v, .agg (arr .u32 256 r)] w fun e w' => ∃ g c z, e = .returned (.slice (some ⟨g, 0, none⟩) (L + 640) c) ∧ B ≤ g ∧ L + 640 ≤ c ∧ c ≤ 1099511627776 ∧ Blk w' g .u8 c z 5 ∧ Kept g v L 640 c z z0 ∧ (∀ j, j < 640 → z (L + j) = pby 20 (fun i => 524288 - cen (mred (r i)) 8380417) 256 j) ∧ Below B w w' ∧ Ex g w w' := by
  have HR := Lib.hid hr; clear hr
  have HF := Lib.hid hf; clear hf
  have HV := Lib.hid hv; clear hv
  go_enter Tryd.func55, Tryd.ntmps55
  go_wp2_with fail
  refine (sfa B v L 640 z0 _ (by first | omega | (simp; done) | (simp; omega)) (by omega) (by omega) (HV.out.alloc _)).mono ?_
  rintro e w1 ⟨g, c, zz, rfl, hg, hc, hcm, h1, hz, hx, hne⟩
  have hne := HV.out.ne (m := w.heap.size + 1) (by omega) (by simpa using hne)
  have hr := hx.blk (Blk.new w .u32 256 r 82 rfl) (by omega)
  have hx := (Ex.of_below ((Below.refl _ _).alloc (Nat.le_refl _) _) g).trans hx
  have HZ := Lib.hid hz; clear hz
  go_wp2_with fail
  go_loopw [7, 6] (fun i v wr => ∃ m o : Nat, m ≤ 128 ∧ i = .int .i64 ((2 * m : Nat) : Int) ∧ v = .slice (some ⟨g, o, none⟩) (640 - 5 * m) (c - L - 5 * m) ∧ (m < 128 → o = L + 5 * m) ∧ Blk wr g .u8 c (fun j => if L ≤ j ∧ j < L + 5 * m then pby 20 (fun i => 524288 - cen (mred (r i)) 8380417) 256 (j - L) else zz j) 5 ∧ Blk wr w.heap.size .u32 256 r 82 ∧ Ex g w wr) (fun i _ _ => 256 - (intOf i).toNat)
  case atStart => exact ⟨0, L, by omega, rfl, rfl, fun _ => rfl, h1.congr fun j _ => by rw [if_neg (by omega)], hr, hx⟩
  case round =>
    clear h1 hr hx
    obtain ⟨m, o, hm, rfl, rfl, ho, h1, hr, hx⟩ := hrel
    by_cases hlt : m < 128
    · obtain rfl := ho hlt
      clear ho
      obtain ⟨hf00, hf01⟩ := HF.out (2 * m) (by omega)
      obtain ⟨hr00, hr01⟩ := HR.out (2 * m) (by omega)
      obtain ⟨hf10, hf11⟩ := HF.out (2 * m + 1) (by omega)
      obtain ⟨hr10, hr11⟩ := HR.out (2 * m + 1) (by omega)
      go_wp2_with (first | (with_reducible refine at_store 5 _ _ rfl ?_; refine wpList_store_int Tryd.sizeOf5 rfl _ _ rfl _ _ rfl _ rfl h1 (by omega) ?_; intro wn hn he; replace hr := he.blk hr (by omega); replace hx := hx.trans he; clear h1; have h1 := hn; clear hn he) | (with_reducible refine at_load 5 _ rfl ?_; refine wpList_load_int Tryd.isAgg5 rfl _ rfl _ _ rfl _ (h1.cell (by omega)) ?_) | (with_reducible refine at_load 80 _ rfl ?_; refine wpList_load_int Tryd.isAgg80 rfl _ rfl _ _ rfl _ (hr.cell (by omega)) ?_) | (go_at_call 58; refine (centeredMod _ _ (by omega) (by omega)).mono ?_; rintro e w' ⟨rfl, rfl⟩))
      go_roundw
      case rel => exact ⟨m + 1, if c - L - 5 * m = 5 then L + 5 * m else L + 5 * m + 5, by omega, by go_num, by rw [show 640 - 5 * m - 5 = 640 - 5 * (m + 1) from by omega, show c - L - 5 * m - 5 = c - L - 5 * (m + 1) from by omega]; split <;> rfl, fun h => by rw [if_neg (by omega)]; omega, h1.congr fun j _ => pkc20 (fun i => 524288 - cen (mred (r i)) 8380417) zz HF.out L m j hlt, hr, hx⟩
      case measure => simp [intOf]; omega
    · obtain rfl : m = 128 := by omega
      go_wp2_with fail
      go_ret
      refine ⟨g, c, _, rfl, hg, hc, hcm, h1, ⟨fun i hi => ?_, HZ.out.2⟩, fun j hj => ?_, hx.below hB hg, hx⟩
      · show (if L ≤ i ∧ i < L + _ then _ else zz i) = z0 i
        rw [if_neg (by omega)]; exact HZ.out.1 i hi
      · rw [if_pos (by omega)]; congr 1; omega

set_option maxRecDepth 100000 in
set_option maxHeartbeats 1000000 in
theorem pack18 (B : Nat) (v : Value) (L : Nat) (z0 : Nat → Int) (r : Nat → Int) (w : World) (hB : B ≤ w.heap.size) (hL : L ≤ 65536) (hv : Buf B w v L 576 z0 5)
    (hr : ∀ i, i < 256 → 0 ≤ r i ∧ r i < 8380417) (hf : ∀ i, i < 256 → 0 ≤ 131072 - cen (mred (r i)) 8380417 ∧ 131072 - cen (mred (r i)) 8380417 < 262144) :
    Calls Tryd.prog 54 #[v, .agg (arr .u32 256 r)] w fun e w' => ∃ g c z, e = .returned (.slice (some ⟨g, 0, none⟩) (L + 576) c) ∧ B ≤ g ∧ L + 576 ≤ c ∧ c ≤ 1099511627776 ∧ Blk w' g .u8 c z 5 ∧ Kept g v L 576 c z z0 ∧ (∀ j, j < 576 → z (L + j) = pby 18 (fun i => 131072 - cen (mred (r i)) 8380417) 256 j) ∧ Below B w w' ∧ Ex g w w' := by
  have HR := Lib.hid hr; clear hr
  have HF := Lib.hid hf; clear hf
  have HV := Lib.hid hv; clear hv
  go_enter Tryd.func54, Tryd.ntmps54
  go_wp2_with fail
  refine (sfa B v L 576 z0 _ (by first | omega | (simp; done) | (simp; omega)) (by omega) (by omega) (HV.out.alloc _)).mono ?_
  rintro e w1 ⟨g, c, zz, rfl, hg, hc, hcm, h1, hz, hx, hne⟩
  have hne := HV.out.ne (m := w.heap.size + 1) (by omega) (by simpa using hne)
  have hr := hx.blk (Blk.new w .u32 256 r 82 rfl) (by omega)
  have hx := (Ex.of_below ((Below.refl _ _).alloc (Nat.le_refl _) _) g).trans hx
  have HZ := Lib.hid hz; clear hz
  go_wp2_with fail
  go_loopw [7, 6] (fun i v wr => ∃ m o : Nat, m ≤ 64 ∧ i = .int .i64 ((4 * m : Nat) : Int) ∧ v = .slice (some ⟨g, o, none⟩) (576 - 9 * m) (c - L - 9 * m) ∧ (m < 64 → o = L + 9 * m) ∧ Blk wr g .u8 c (fun j => if L ≤ j ∧ j < L + 9 * m then pby 18 (fun i => 131072 - cen (mred (r i)) 8380417) 256 (j - L) else zz j) 5 ∧ Blk wr w.heap.size .u32 256 r 82 ∧ Ex g w wr) (fun i _ _ => 256 - (intOf i).toNat)
  case atStart => exact ⟨0, L, by omega, rfl, rfl, fun _ => rfl, h1.congr fun j _ => by rw [if_neg (by omega)], hr, hx⟩
  case round =>
    clear h1 hr hx
    obtain ⟨m, o, hm, rfl, rfl, ho, h1, hr, hx⟩ := hrel
    by_cases hlt : m < 64
    · obtain rfl := ho hlt
      clear ho
      obtain ⟨hf00, hf01⟩ := HF.out (4 * m) (by omega)
      obtain ⟨hr00, hr01⟩ := HR.out (4 * m) (by omega)
      obtain ⟨hf10, hf11⟩ := HF.out (4 * m + 1) (by omega)
      obtain ⟨hr10, hr11⟩ := HR.out (4 * m + 1) (by omega)
      obtain ⟨hf20, hf21⟩ := HF.out (4 * m + 2) (by omega)
      obtain ⟨hr20, hr21⟩ := HR.out (4 * m + 2) (by omega)
      obtain ⟨hf30, hf31⟩ := HF.out (4 * m + 3) (by omega)
      obtain ⟨hr30, hr31⟩ := HR.out (4 * m + 3) (by omega)
      go_wp2_with (first | (with_reducible refine at_store 5 _ _ rfl ?_; refine wpList_store_int Tryd.sizeOf5 rfl _ _ rfl _ _ rfl _ rfl h1 (by omega) ?_; intro wn hn he; replace hr := he.blk hr (by omega); replace hx := hx.trans he; clear h1; have h1 := hn; clear hn he) | (with_reducible refine at_load 5 _ rfl ?_; refine wpList_load_int Tryd.isAgg5 rfl _ rfl _ _ rfl _ (h1.cell (by omega)) ?_) | (with_reducible refine at_load 80 _ rfl ?_; refine wpList_load_int Tryd.isAgg80 rfl _ rfl _ _ rfl _ (hr.cell (by omega)) ?_) | (go_at_call 58; refine (centeredMod _ _ (by omega) (by omega)).mono ?_; rintro e w' ⟨rfl, rfl⟩))
      go_roundw
      case rel => exact ⟨m + 1, if c - L - 9 * m = 9 then L + 9 * m else L + 9 * m + 9, by omega, by go_num, by rw [show 576 - 9 * m - 9 = 576 - 9 * (m + 1) from by omega, show c - L - 9 * m - 9 = c - L - 9 * (m + 1) from by omega]; split <;> rfl, fun h => by rw [if_neg (by omega)]; omega, h1.congr fun j _ => pkc18 (fun i => 131072 - cen (mred (r i)) 8380417) zz HF.out L m j hlt, hr, hx⟩
      case measure => simp [intOf]; omega
    · obtain rfl : m = 64 := by omega
      go_wp2_with fail
      go_ret
      refine ⟨g, c, _, rfl, hg, hc, hcm, h1, ⟨fun i hi => ?_, HZ.out.2⟩, fun j hj => ?_, hx.below hB hg, hx⟩
      · show (if L ≤ i ∧ i < L + _ then _ else zz i) = z0 i
        rw [if_neg (by omega)]; exact HZ.out.1 i hi
      · rw [if_pos (by omega)]; congr 1; omega

end Go.Proofs.YtanfpnidlgejhaaDoor
