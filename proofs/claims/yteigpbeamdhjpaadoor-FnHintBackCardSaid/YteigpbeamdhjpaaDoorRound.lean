/-
  Contracts of rounding and hints, and of the reference's own.
-/
import Derived.Test.YteigpbeamdhjpaaDoorField
namespace Go.Proofs.YteigpbeamdhjpaaDoor
open Go.RowKit

/-! ### Plain functions -/
/-- The number that is a modulo m, above -m / 2 and at most m / 2. -/
def cen (a m : Int) : Int := if m < 2 * (a % m) then a % m - m else a % m
def decHi (r g : Int) : Int := if r - cen r (2 * g) = 8380416 then 0 else (r - cen r (2 * g)) / (2 * g)
def decLo (r g : Int) : Int := if r - cen r (2 * g) = 8380416 then cen r (2 * g) - 1 else cen r (2 * g)

theorem cen_q (x : Int) (h0 : 0 ≤ x) (h1 : x < 8380417) : cen x 8380417 = if x ≤ 4190208 then x else x - 8380417 := by
  unfold cen; split <;> split <;> omega

/-- The rounded multiple of 523776. -/
theorem cen32 (x : Int) : x - cen x 523776 = 523776 * ((x + 261887) / 523776) := by
  unfold cen; split <;> omega
theorem cen88 (x : Int) : x - cen x 190464 = 190464 * ((x + 95231) / 190464) := by
  unfold cen; split <;> omega

theorem hb32_eq (x : Int) (h0 : 0 ≤ x) (h1 : x < 8380417) : ((x + 127) / 128 * 1025 + 2097152) / 4194304 % 16 = decHi x 261888 := by
  unfold decHi
  rw [show (2 * 261888 : Int) = 523776 from rfl, cen32]
  generalize hk : (x + 261887) / 523776 = k
  have hb : ((x + 127) / 128 * 1025 + 2097152) / 4194304 = k := by omega
  rw [hb]
  split <;> omega
theorem hb88_eq (x : Int) (h0 : 0 ≤ x) (h1 : x < 8380417) : (if ((x + 127) / 128 * 11275 + 8388608) / 16777216 = 44 then 0 else ((x + 127) / 128 * 11275 + 8388608) / 16777216) = decHi x 95232 := by
  unfold decHi
  rw [show (2 * 95232 : Int) = 190464 from rfl, cen88]
  generalize hk : (x + 95231) / 190464 = k
  have hb : ((x + 127) / 128 * 11275 + 8388608) / 16777216 = k := by omega
  rw [hb]
  split <;> split <;> omega
theorem decHi32_bd (x : Int) (h0 : 0 ≤ x) (h1 : x < 8380417) : 0 ≤ decHi x 261888 ∧ decHi x 261888 ≤ 15 := by
  rw [← hb32_eq x h0 h1]; omega
theorem decHi88_bd (x : Int) (h0 : 0 ≤ x) (h1 : x < 8380417) : 0 ≤ decHi x 95232 ∧ decHi x 95232 ≤ 43 := by
  unfold decHi
  rw [show (2 * 95232 : Int) = 190464 from rfl, cen88]
  split <;> omega
theorem lo32_eq (x : Int) (h0 : 0 ≤ x) (h1 : x < 8380417) : (if 4190209 ≤ x - decHi x 261888 * 523776 then x - decHi x 261888 * 523776 - 8380417 else x - decHi x 261888 * 523776) = decLo x 261888 := by
  unfold decHi decLo
  rw [show (2 * 261888 : Int) = 523776 from rfl]
  have := cen32 x
  generalize cen x 523776 = c at *
  rw [this]
  generalize hk : (x + 261887) / 523776 = k at *
  split <;> split <;> omega
theorem lo88_eq (x : Int) (h0 : 0 ≤ x) (h1 : x < 8380417) : (if 4190209 ≤ x - decHi x 95232 * 190464 then x - decHi x 95232 * 190464 - 8380417 else x - decHi x 95232 * 190464) = decLo x 95232 := by
  unfold decHi decLo
  rw [show (2 * 95232 : Int) = 190464 from rfl]
  have := cen88 x
  generalize cen x 190464 = c at *
  rw [this]
  generalize hk : (x + 95231) / 190464 = k at *
  split <;> split <;> omega





theorem p2_lo (x : Int) (h0 : 0 ≤ x) (h1 : x < 8380417) : 0 ≤ (x + 4095) / 8192 ∧ (x + 4095) / 8192 * 8192 < 8380417 := by omega
theorem p2_cen (x : Int) : cen x 8192 = x - (x + 4095) / 8192 * 8192 := by unfold cen; split <;> omega
theorem p2_hi (x : Int) : (x - cen x 8192) / 8192 = (x + 4095) / 8192 := by rw [p2_cen]; omega




/-! ### The reference's own -/
theorem tmod_neg (a m : Int) (ha : a < 0) (hm : 0 < m) : a.tmod m = if a % m = 0 then 0 else a % m - m := by
  rw [Int.tmod_eq_emod]
  have h1 := Int.emod_nonneg a (show m ≠ 0 by omega)
  by_cases hz : a % m = 0
  · rw [if_pos (.inr (Int.dvd_of_emod_eq_zero hz)), if_pos hz]; omega
  · have : ¬ m ∣ a := fun h => hz (Int.emod_eq_zero_of_dvd h)
    rw [if_neg (by simp [this]; omega), if_neg hz]
    have : (m.natAbs : Int) = m := by omega
    omega


theorem cen_bd (a m : Int) (hm : 0 < m) : -m ≤ cen a m ∧ cen a m ≤ m := by
  have h1 := Int.emod_nonneg a (show m ≠ 0 by omega)
  have h2 := Int.emod_lt_of_pos a hm
  unfold cen; split <;> omega



theorem dec32_nn (a : Int) (h : 0 ≤ a) : 0 ≤ a - cen a (2 * 261888) := by rw [show (2 * 261888 : Int) = 523776 from rfl, cen32]; omega
theorem dec88_nn (a : Int) (h : 0 ≤ a) : 0 ≤ a - cen a (2 * 95232) := by rw [show (2 * 95232 : Int) = 190464 from rfl, cen88]; omega
theorem decLo32_bd (x : Int) (h0 : 0 ≤ x) (h1 : x < 8380417) : -261888 ≤ decLo x 261888 ∧ decLo x 261888 ≤ 261888 := by
  have := cen32 x
  unfold decLo
  rw [show (2 * 261888 : Int) = 523776 from rfl]
  split <;> omega
theorem decLo88_bd (x : Int) (h0 : 0 ≤ x) (h1 : x < 8380417) : -95232 ≤ decLo x 95232 ∧ decLo x 95232 ≤ 95232 := by
  have := cen88 x
  unfold decLo
  rw [show (2 * 95232 : Int) = 190464 from rfl]
  split <;> omega

/-- The multiple that a hint tells. -/
def useH (h : Bool) (r g m : Int) : Int := if h then (if 0 < decLo r g then (decHi r g + 1) % m else (decHi r g + m - 1) % m) else decHi r g

/-- A hint. -/
def mkH (a b g : Int) : Int := if decHi a g = decHi b g then 0 else 1








end Go.Proofs.YteigpbeamdhjpaaDoor
