/-
  Bytes read as numbers.
-/
import Derived.Test.YteigpbeamdhjpaaDoorRing
import Derived.Test.YteigpbeamdhjpaaDoorSlice
import Derived.Test.YteigpbeamdhjpaaDoorBits
namespace Go.Proofs.YteigpbeamdhjpaaDoor
open Go.RowKit

/-- The number of d bits at place i. -/
def ubits (b : Nat → Int) (n d i : Nat) : Int := dn 8 b n / 2 ^ (d * i) % 2 ^ d
theorem Addr.add_zero' (g o : Nat) : (⟨g, o, none⟩ : Addr).add 0 = ⟨g, o, none⟩ := rfl
theorem Addr.add_at (g o j : Nat) : (⟨g, o, none⟩ : Addr).add j = ⟨g, o + j, none⟩ := by
  unfold Addr.add
  split
  · rename_i e; subst e; rfl
  · rfl
theorem Rd.row {w : World} {g n : Nat} {k : IntKind} {b : Nat → Int} (h : Rd k w ⟨g, 0, none⟩ n b) (j : Nat) (hj : j < n) : w.cell? ⟨g, j, none⟩ = some (.int k (b j)) := by
  have := h j hj
  rw [Addr.add_at, Nat.zero_add] at this
  exact this
theorem byte_at (b : Nat → Int) (n : Nat) (hb : ∀ i, i < n → 0 ≤ b i ∧ b i < 256) (t r : Nat) (ht : t + r < n) : dn 8 b n / 2 ^ (8 * t) / 2 ^ (8 * r) % 256 = b (t + r) := by
  rw [← div_pow, ← Nat.mul_add]
  exact dn_div 8 b n hb (t + r) ht
theorem or3 (x y z : Int) (j k : Nat) (x0 : 0 ≤ x) (x1 : x < 2 ^ j) (y0 : 0 ≤ y) (h2 : x + y * 2 ^ j < 2 ^ k) (z0 : 0 ≤ z) (h3 : x + y * 2 ^ j + z * 2 ^ k < 4294967296) : bits .or .u32 (bits .or .u32 x (y * 2 ^ j)) (z * 2 ^ k) = x + y * 2 ^ j + z * 2 ^ k := by
  have hp := pow_pos2 j
  have hy := Int.mul_nonneg y0 (Int.le_of_lt hp)
  have hz := Int.mul_nonneg z0 (Int.le_of_lt (pow_pos2 k))
  rw [u32_or j x y x0 x1 y0 (by omega), u32_or k _ z (by omega) h2 z0 h3]
theorem w20_0 (b : Nat → Int) (m : Nat) (hm : m < 128) (hb : ∀ i, i < 640 → 0 ≤ b i ∧ b i < 256) : bits .and .u32 (bits .or .u32 (bits .or .u32 (b (5 * m)) (b (5 * m + 1) * 256)) (b (5 * m + 2) * 65536)) 1048575 = ubits b 640 20 (2 * m) := by
  obtain ⟨b00, b01⟩ := hb (5 * m) (by omega)
  obtain ⟨b10, b11⟩ := hb (5 * m + 1) (by omega)
  obtain ⟨b20, b21⟩ := hb (5 * m + 2) (by omega)
  have h0 := byte_at b 640 hb (5 * m) 0 (by omega)
  have h1 := byte_at b 640 hb (5 * m) 1 (by omega)
  have h2 := byte_at b 640 hb (5 * m) 2 (by omega)
  have e := or3 (b (5 * m)) (b (5 * m + 1)) (b (5 * m + 2)) 8 16 b00 (by omega) b10 (by omega) b20 (by omega)
  rw [show (2 : Int) ^ 8 = 256 from rfl, show (2 : Int) ^ 16 = 65536 from rfl] at e
  rw [e]
  have em := u32_mask 20 (b (5 * m) + b (5 * m + 1) * 256 + b (5 * m + 2) * 65536) (by omega) (by omega) (by decide)
  rw [show ((2 ^ 20 - 1 : Nat) : Int) = 1048575 from rfl, show ((2 ^ 20 : Nat) : Int) = 1048576 from rfl] at em
  rw [em]
  unfold ubits
  rw [show 20 * (2 * m) = 8 * (5 * m) from by omega]
  generalize dn 8 b 640 / 2 ^ (8 * (5 * m)) = X at *
  simp only [Nat.mul_zero, Int.pow_zero, Int.ediv_one, Nat.add_zero, Nat.mul_one] at h0 h1 h2
  rw [show (2 : Int) ^ 20 = 1048576 from rfl]
  rw [show (2 : Int) ^ 8 = 256 from rfl] at h1
  rw [show (2 : Int) ^ (8 * 2) = 65536 from rfl] at h2
  omega
theorem w20_1 (b : Nat → Int) (m : Nat) (hm : m < 128) (hb : ∀ i, i < 640 → 0 ≤ b i ∧ b i < 256) : bits .and .u32 (bits .or .u32 (bits .or .u32 (b (5 * m + 2) / 16) (b (5 * m + 3) * 16)) (b (5 * m + 4) * 4096)) 1048575 = ubits b 640 20 (2 * m + 1) := by
  obtain ⟨b20, b21⟩ := hb (5 * m + 2) (by omega)
  obtain ⟨b30, b31⟩ := hb (5 * m + 3) (by omega)
  obtain ⟨b40, b41⟩ := hb (5 * m + 4) (by omega)
  have h2 := byte_at b 640 hb (5 * m) 2 (by omega)
  have h3 := byte_at b 640 hb (5 * m) 3 (by omega)
  have h4 := byte_at b 640 hb (5 * m) 4 (by omega)
  have e := or3 (b (5 * m + 2) / 16) (b (5 * m + 3)) (b (5 * m + 4)) 4 12 (by omega) (by omega) b30 (by omega) b40 (by omega)
  rw [show (2 : Int) ^ 4 = 16 from rfl, show (2 : Int) ^ 12 = 4096 from rfl] at e
  rw [e]
  have em := u32_mask 20 (b (5 * m + 2) / 16 + b (5 * m + 3) * 16 + b (5 * m + 4) * 4096) (by omega) (by omega) (by decide)
  rw [show ((2 ^ 20 - 1 : Nat) : Int) = 1048575 from rfl, show ((2 ^ 20 : Nat) : Int) = 1048576 from rfl] at em
  rw [em]
  unfold ubits
  rw [show 20 * (2 * m + 1) = 8 * (5 * m) + 20 from by omega, div_pow]
  generalize dn 8 b 640 / 2 ^ (8 * (5 * m)) = X at *
  rw [show (2 : Int) ^ 20 = 1048576 from rfl]
  rw [show (2 : Int) ^ (8 * 2) = 65536 from rfl] at h2
  rw [show (2 : Int) ^ (8 * 3) = 16777216 from rfl] at h3
  rw [show (2 : Int) ^ (8 * 4) = 4294967296 from rfl] at h4
  omega
theorem ubits_bd (b : Nat → Int) (n d i : Nat) : 0 ≤ ubits b n d i ∧ ubits b n d i < 2 ^ d := by
  have := pow_pos2 d
  exact ⟨Int.emod_nonneg _ (by omega), Int.emod_lt_of_pos _ this⟩


end Go.Proofs.YteigpbeamdhjpaaDoor
