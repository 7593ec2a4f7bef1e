/-
  Numbers packed as bytes.
-/
import Derived.Test.YteigpbeamdhjpaaDoorRing
import Derived.Test.YteigpbeamdhjpaaDoorMem
import Derived.Test.YteigpbeamdhjpaaDoorPackN
import Derived.Test.YteigpbeamdhjpaaDoorUnpack3
namespace Go.Proofs.YteigpbeamdhjpaaDoor
open Go.RowKit

theorem Blk.rd {w : World} {g : Nat} {k : IntKind} {c n L : Nat} {z b : Nat → Int} {t : TypeId} (h : Blk w g k c z t) (hc : L + n ≤ c) (e : ∀ j, j < n → z (L + j) = b j) : Rd k w ⟨g, L, none⟩ n b := fun j hj => by
  rw [Addr.add_at, h.cell (by omega), e j hj]
theorem dn_two (d : Nat) (f : Nat → Int) (hf : ∀ i, i < 256 → 0 ≤ f i ∧ f i < 2 ^ d) (i : Nat) (hi : i < 256) (p : Nat) (hp : p = d * i) : dn d f 256 / 2 ^ p % 2 ^ d = f i := by subst hp; exact dn_div d f 256 hf i hi

theorem pb20 (f : Nat → Int) (hf : ∀ i, i < 256 → 0 ≤ f i ∧ f i < 1048576) (m : Nat) (hm : m < 128) : pby 20 f 256 (5 * m + 0) = f (2 * m) % 256 ∧ pby 20 f 256 (5 * m + 1) = f (2 * m) / 256 % 256 ∧ pby 20 f 256 (5 * m + 2) = f (2 * m) / 65536 + f (2 * m + 1) % 16 * 16 ∧ pby 20 f 256 (5 * m + 3) = f (2 * m + 1) / 16 % 256 ∧ pby 20 f 256 (5 * m + 4) = f (2 * m + 1) / 4096 := by
  obtain ⟨f00, f01⟩ := hf (2 * m) (by omega)
  obtain ⟨f10, f11⟩ := hf (2 * m + 1) (by omega)
  have h0 := dn_two 20 f hf (2 * m) (by omega) (8 * (5 * m) + 0) (by omega)
  rw [div_pow] at h0
  have h1 := dn_two 20 f hf (2 * m + 1) (by omega) (8 * (5 * m) + 20) (by omega)
  rw [div_pow] at h1
  unfold pby
  rw [show 8 * (5 * m + 0) = 8 * (5 * m) + 0 from by omega, div_pow _ (8 * (5 * m)) 0]
  rw [show 8 * (5 * m + 1) = 8 * (5 * m) + 8 from by omega, div_pow _ (8 * (5 * m)) 8]
  rw [show 8 * (5 * m + 2) = 8 * (5 * m) + 16 from by omega, div_pow _ (8 * (5 * m)) 16]
  rw [show 8 * (5 * m + 3) = 8 * (5 * m) + 24 from by omega, div_pow _ (8 * (5 * m)) 24]
  rw [show 8 * (5 * m + 4) = 8 * (5 * m) + 32 from by omega, div_pow _ (8 * (5 * m)) 32]
  generalize dn 20 f 256 / 2 ^ (8 * (5 * m)) = X at *
  generalize f (2 * m) = y0 at *
  generalize f (2 * m + 1) = y1 at *
  simp only [show (2 : Int) ^ 0 = 1 from rfl, show (2 : Int) ^ 8 = 256 from rfl, show (2 : Int) ^ 16 = 65536 from rfl, show (2 : Int) ^ 20 = 1048576 from rfl, show (2 : Int) ^ 24 = 16777216 from rfl, show (2 : Int) ^ 32 = 4294967296 from rfl, Int.ediv_one] at *
  refine ⟨?_, ?_, ?_, ?_, ?_⟩ <;> omega
theorem pb18 (f : Nat → Int) (hf : ∀ i, i < 256 → 0 ≤ f i ∧ f i < 262144) (m : Nat) (hm : m < 64) : pby 18 f 256 (9 * m + 0) = f (4 * m) % 256 ∧ pby 18 f 256 (9 * m + 1) = f (4 * m) / 256 % 256 ∧ pby 18 f 256 (9 * m + 2) = f (4 * m) / 65536 + f (4 * m + 1) % 64 * 4 ∧ pby 18 f 256 (9 * m + 3) = f (4 * m + 1) / 64 % 256 ∧ pby 18 f 256 (9 * m + 4) = f (4 * m + 1) / 16384 + f (4 * m + 2) % 16 * 16 ∧ pby 18 f 256 (9 * m + 5) = f (4 * m + 2) / 16 % 256 ∧ pby 18 f 256 (9 * m + 6) = f (4 * m + 2) / 4096 + f (4 * m + 3) % 4 * 64 ∧ pby 18 f 256 (9 * m + 7) = f (4 * m + 3) / 4 % 256 ∧ pby 18 f 256 (9 * m + 8) = f (4 * m + 3) / 1024 := by
  obtain ⟨f00, f01⟩ := hf (4 * m) (by omega)
  obtain ⟨f10, f11⟩ := hf (4 * m + 1) (by omega)
  obtain ⟨f20, f21⟩ := hf (4 * m + 2) (by omega)
  obtain ⟨f30, f31⟩ := hf (4 * m + 3) (by omega)
  have h0 := dn_two 18 f hf (4 * m) (by omega) (8 * (9 * m) + 0) (by omega)
  rw [div_pow] at h0
  have h1 := dn_two 18 f hf (4 * m + 1) (by omega) (8 * (9 * m) + 18) (by omega)
  rw [div_pow] at h1
  have h2 := dn_two 18 f hf (4 * m + 2) (by omega) (8 * (9 * m) + 36) (by omega)
  rw [div_pow] at h2
  have h3 := dn_two 18 f hf (4 * m + 3) (by omega) (8 * (9 * m) + 54) (by omega)
  rw [div_pow] at h3
  unfold pby
  rw [show 8 * (9 * m + 0) = 8 * (9 * m) + 0 from by omega, div_pow _ (8 * (9 * m)) 0]
  rw [show 8 * (9 * m + 1) = 8 * (9 * m) + 8 from by omega, div_pow _ (8 * (9 * m)) 8]
  rw [show 8 * (9 * m + 2) = 8 * (9 * m) + 16 from by omega, div_pow _ (8 * (9 * m)) 16]
  rw [show 8 * (9 * m + 3) = 8 * (9 * m) + 24 from by omega, div_pow _ (8 * (9 * m)) 24]
  rw [show 8 * (9 * m + 4) = 8 * (9 * m) + 32 from by omega, div_pow _ (8 * (9 * m)) 32]
  rw [show 8 * (9 * m + 5) = 8 * (9 * m) + 40 from by omega, div_pow _ (8 * (9 * m)) 40]
  rw [show 8 * (9 * m + 6) = 8 * (9 * m) + 48 from by omega, div_pow _ (8 * (9 * m)) 48]
  rw [show 8 * (9 * m + 7) = 8 * (9 * m) + 56 from by omega, div_pow _ (8 * (9 * m)) 56]
  rw [show 8 * (9 * m + 8) = 8 * (9 * m) + 64 from by omega, div_pow _ (8 * (9 * m)) 64]
  generalize dn 18 f 256 / 2 ^ (8 * (9 * m)) = X at *
  generalize f (4 * m) = y0 at *
  generalize f (4 * m + 1) = y1 at *
  generalize f (4 * m + 2) = y2 at *
  generalize f (4 * m + 3) = y3 at *
  simp only [show (2 : Int) ^ 0 = 1 from rfl, show (2 : Int) ^ 8 = 256 from rfl, show (2 : Int) ^ 16 = 65536 from rfl, show (2 : Int) ^ 18 = 262144 from rfl, show (2 : Int) ^ 24 = 16777216 from rfl, show (2 : Int) ^ 32 = 4294967296 from rfl, show (2 : Int) ^ 36 = 68719476736 from rfl, show (2 : Int) ^ 40 = 1099511627776 from rfl, show (2 : Int) ^ 48 = 281474976710656 from rfl, show (2 : Int) ^ 54 = 18014398509481984 from rfl, show (2 : Int) ^ 56 = 72057594037927936 from rfl, show (2 : Int) ^ 64 = 18446744073709551616 from rfl, Int.ediv_one] at *
  refine ⟨?_, ?_, ?_, ?_, ?_, ?_, ?_, ?_, ?_⟩ <;> omega
theorem pkc20 (f zz : Nat → Int) (hf : ∀ i, i < 256 → 0 ≤ f i ∧ f i < 1048576) (L m j : Nat) (hm : m < 128) :
    (if j = L + 5 * m + 4 then f (2 * m + 1) / 4096 else if j = L + 5 * m + 3 then f (2 * m + 1) / 16 % 256 else if j = L + 5 * m + 2 then bits .or .u8 (f (2 * m) / 65536) (f (2 * m + 1) * 16 % 256) else if j = L + 5 * m + 2 then f (2 * m) / 65536 else if j = L + 5 * m + 1 then f (2 * m) / 256 % 256 else if j = L + 5 * m then f (2 * m) % 256 else if L ≤ j ∧ j < L + 5 * m then pby 20 f 256 (j - L) else zz j) = if L ≤ j ∧ j < L + 5 * (m + 1) then pby 20 f 256 (j - L) else zz j := by
  obtain ⟨p0, p1, p2, p3, p4⟩ := pb20 f hf m hm
  obtain ⟨f00, f01⟩ := hf (2 * m) (by omega)
  obtain ⟨f10, f11⟩ := hf (2 * m + 1) (by omega)
  have o2 : bits .or .u8 (f (2 * m) / 65536) (f (2 * m + 1) * 16 % 256) = f (2 * m) / 65536 + f (2 * m + 1) % 16 * 16 := by
    rw [show f (2 * m + 1) * 16 % 256 = f (2 * m + 1) % 16 * 2 ^ 4 by omega, u8_or 4 _ _ (by omega) (by omega) (by omega) (by omega)]
    omega
  by_cases hj : L ≤ j ∧ j < L + 5 * m
  · rw [if_neg (by omega)]
    rw [if_neg (by omega)]
    rw [if_neg (by omega)]
    rw [if_neg (by omega)]
    rw [if_neg (by omega)]
    rw [if_neg (by omega)]
    rw [if_pos hj, if_pos (by omega)]
  by_cases hj2 : j < L ∨ L + 5 * (m + 1) ≤ j
  · rw [if_neg (by omega)]
    rw [if_neg (by omega)]
    rw [if_neg (by omega)]
    rw [if_neg (by omega)]
    rw [if_neg (by omega)]
    rw [if_neg (by omega)]
    rw [if_neg hj, if_neg (by omega)]
  rw [if_pos (show L ≤ j ∧ j < L + 5 * (m + 1) by omega)]
  by_cases e0 : j = L + 5 * m
  · rw [if_neg (by omega)]
    rw [if_neg (by omega)]
    rw [if_neg (by omega)]
    rw [if_neg (by omega)]
    rw [if_neg (by omega)]
    rw [if_pos e0, show j - L = 5 * m + 0 by omega, p0]
  by_cases e1 : j = L + 5 * m + 1
  · rw [if_neg (by omega)]
    rw [if_neg (by omega)]
    rw [if_neg (by omega)]
    rw [if_neg (by omega)]
    rw [if_pos e1, show j - L = 5 * m + 1 by omega, p1]
  by_cases e2 : j = L + 5 * m + 2
  · rw [if_neg (by omega)]
    rw [if_neg (by omega)]
    rw [if_pos e2, show j - L = 5 * m + 2 by omega, p2]
    exact o2
  by_cases e3 : j = L + 5 * m + 3
  · rw [if_neg (by omega)]
    rw [if_pos e3, show j - L = 5 * m + 3 by omega, p3]
  by_cases e4 : j = L + 5 * m + 4
  · rw [if_pos e4, show j - L = 5 * m + 4 by omega, p4]
  omega
theorem pkc18 (f zz : Nat → Int) (hf : ∀ i, i < 256 → 0 ≤ f i ∧ f i < 262144) (L m j : Nat) (hm : m < 64) :
    (if j = L + 9 * m + 8 then f (4 * m + 3) / 1024 else if j = L + 9 * m + 7 then f (4 * m + 3) / 4 % 256 else if j = L + 9 * m + 6 then bits .or .u8 (f (4 * m + 2) / 4096) (f (4 * m + 3) * 64 % 256) else if j = L + 9 * m + 6 then f (4 * m + 2) / 4096 else if j = L + 9 * m + 5 then f (4 * m + 2) / 16 % 256 else if j = L + 9 * m + 4 then bits .or .u8 (f (4 * m + 1) / 16384) (f (4 * m + 2) * 16 % 256) else if j = L + 9 * m + 4 then f (4 * m + 1) / 16384 else if j = L + 9 * m + 3 then f (4 * m + 1) / 64 % 256 else if j = L + 9 * m + 2 then bits .or .u8 (f (4 * m) / 65536) (f (4 * m + 1) * 4 % 256) else if j = L + 9 * m + 2 then f (4 * m) / 65536 else if j = L + 9 * m + 1 then f (4 * m) / 256 % 256 else if j = L + 9 * m then f (4 * m) % 256 else if L ≤ j ∧ j < L + 9 * m then pby 18 f 256 (j - L) else zz j) = if L ≤ j ∧ j < L + 9 * (m + 1) then pby 18 f 256 (j - L) else zz j := by
  obtain ⟨p0, p1, p2, p3, p4, p5, p6, p7, p8⟩ := pb18 f hf m hm
  obtain ⟨f00, f01⟩ := hf (4 * m) (by omega)
  obtain ⟨f10, f11⟩ := hf (4 * m + 1) (by omega)
  obtain ⟨f20, f21⟩ := hf (4 * m + 2) (by omega)
  obtain ⟨f30, f31⟩ := hf (4 * m + 3) (by omega)
  have o2 : bits .or .u8 (f (4 * m) / 65536) (f (4 * m + 1) * 4 % 256) = f (4 * m) / 65536 + f (4 * m + 1) % 64 * 4 := by
    rw [show f (4 * m + 1) * 4 % 256 = f (4 * m + 1) % 64 * 2 ^ 2 by omega, u8_or 2 _ _ (by omega) (by omega) (by omega) (by omega)]
    omega
  have o4 : bits .or .u8 (f (4 * m + 1) / 16384) (f (4 * m + 2) * 16 % 256) = f (4 * m + 1) / 16384 + f (4 * m + 2) % 16 * 16 := by
    rw [show f (4 * m + 2) * 16 % 256 = f (4 * m + 2) % 16 * 2 ^ 4 by omega, u8_or 4 _ _ (by omega) (by omega) (by omega) (by omega)]
    omega
  have o6 : bits .or .u8 (f (4 * m + 2) / 4096) (f (4 * m + 3) * 64 % 256) = f (4 * m + 2) / 4096 + f (4 * m + 3) % 4 * 64 := by
    rw [show f (4 * m + 3) * 64 % 256 = f (4 * m + 3) % 4 * 2 ^ 6 by omega, u8_or 6 _ _ (by omega) (by omega) (by omega) (by omega)]
    omega
  by_cases hj : L ≤ j ∧ j < L + 9 * m
  · rw [if_neg (by omega)]
    rw [if_neg (by omega)]
    rw [if_neg (by omega)]
    rw [if_neg (by omega)]
    rw [if_neg (by omega)]
    rw [if_neg (by omega)]
    rw [if_neg (by omega)]
    rw [if_neg (by omega)]
    rw [if_neg (by omega)]
    rw [if_neg (by omega)]
    rw [if_neg (by omega)]
    rw [if_neg (by omega)]
    rw [if_pos hj, if_pos (by omega)]
  by_cases hj2 : j < L ∨ L + 9 * (m + 1) ≤ j
  · rw [if_neg (by omega)]
    rw [if_neg (by omega)]
    rw [if_neg (by omega)]
    rw [if_neg (by omega)]
    rw [if_neg (by omega)]
    rw [if_neg (by omega)]
    rw [if_neg (by omega)]
    rw [if_neg (by omega)]
    rw [if_neg (by omega)]
    rw [if_neg (by omega)]
    rw [if_neg (by omega)]
    rw [if_neg (by omega)]
    rw [if_neg hj, if_neg (by omega)]
  rw [if_pos (show L ≤ j ∧ j < L + 9 * (m + 1) by omega)]
  by_cases e0 : j = L + 9 * m
  · rw [if_neg (by omega)]
    rw [if_neg (by omega)]
    rw [if_neg (by omega)]
    rw [if_neg (by omega)]
    rw [if_neg (by omega)]
    rw [if_neg (by omega)]
    rw [if_neg (by omega)]
    rw [if_neg (by omega)]
    rw [if_neg (by omega)]
    rw [if_neg (by omega)]
    rw [if_neg (by omega)]
    rw [if_pos e0, show j - L = 9 * m + 0 by omega, p0]
  by_cases e1 : j = L + 9 * m + 1
  · rw [if_neg (by omega)]
    rw [if_neg (by omega)]
    rw [if_neg (by omega)]
    rw [if_neg (by omega)]
    rw [if_neg (by omega)]
    rw [if_neg (by omega)]
    rw [if_neg (by omega)]
    rw [if_neg (by omega)]
    rw [if_neg (by omega)]
    rw [if_neg (by omega)]
    rw [if_pos e1, show j - L = 9 * m + 1 by omega, p1]
  by_cases e2 : j = L + 9 * m + 2
  · rw [if_neg (by omega)]
    rw [if_neg (by omega)]
    rw [if_neg (by omega)]
    rw [if_neg (by omega)]
    rw [if_neg (by omega)]
    rw [if_neg (by omega)]
    rw [if_neg (by omega)]
    rw [if_neg (by omega)]
    rw [if_pos e2, show j - L = 9 * m + 2 by omega, p2]
    exact o2
  by_cases e3 : j = L + 9 * m + 3
  · rw [if_neg (by omega)]
    rw [if_neg (by omega)]
    rw [if_neg (by omega)]
    rw [if_neg (by omega)]
    rw [if_neg (by omega)]
    rw [if_neg (by omega)]
    rw [if_neg (by omega)]
    rw [if_pos e3, show j - L = 9 * m + 3 by omega, p3]
  by_cases e4 : j = L + 9 * m + 4
  · rw [if_neg (by omega)]
    rw [if_neg (by omega)]
    rw [if_neg (by omega)]
    rw [if_neg (by omega)]
    rw [if_neg (by omega)]
    rw [if_pos e4, show j - L = 9 * m + 4 by omega, p4]
    exact o4
  by_cases e5 : j = L + 9 * m + 5
  · rw [if_neg (by omega)]
    rw [if_neg (by omega)]
    rw [if_neg (by omega)]
    rw [if_neg (by omega)]
    rw [if_pos e5, show j - L = 9 * m + 5 by omega, p5]
  by_cases e6 : j = L + 9 * m + 6
  · rw [if_neg (by omega)]
    rw [if_neg (by omega)]
    rw [if_pos e6, show j - L = 9 * m + 6 by omega, p6]
    exact o6
  by_cases e7 : j = L + 9 * m + 7
  · rw [if_neg (by omega)]
    rw [if_pos e7, show j - L = 9 * m + 7 by omega, p7]
  by_cases e8 : j = L + 9 * m + 8
  · rw [if_pos e8, show j - L = 9 * m + 8 by omega, p8]
  omega


end Go.Proofs.YteigpbeamdhjpaaDoor
