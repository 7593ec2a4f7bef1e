/-
  Contracts of rounding and hints, and of the reference's own.
-/
import Derived.Test.YtanfpnidlgejhaaDoorField
namespace Go.Proofs.YtanfpnidlgejhaaDoor
open Go.RowKit

/-! ### Plain functions -/
/-- The number that is a modulo m, above -m / 2 and at most m / 2. -/
def cen (a m : Int) : Int := if m < 2 * (a % m) then a % m - m else a % m
def decHi (r g : Int) : Int := if r - cen r (2 * g) = 8380416 then 0 else (r - cen r (2 * g)) / (2 * g)
def decLo (r g : Int) : Int := if r - cen r (2 * g) = 8380416 then cen r (2 * g) - 1 else cen r (2 * g)

theorem cen_q (x : Int) (h0 : 0 ≤ x) (h1 : x < 8380417) : cen x 8380417 = if x ≤ 4190208 then x else x - 8380417 := by
  unfold cen; split <;> split <;> omega

/-- The rounded multiple of 523776. -/
theorem cen32 (x : Int) : x - cen x 523776 = 523776 * ((x + 261887) / 523776) := by
  unfold cen; split <;> omega
theorem cen88 (x : Int) : x - cen x 190464 = 190464 * ((x + 95231) / 190464) := by
  unfold cen; split <;> omega

theorem hb32_eq (x : Int) (h0 : 0 ≤ x) (h1 : x < 8380417) : ((x + 127) / 128 * 1025 + 2097152) / 4194304 % 16 = decHi x 261888 := by
  unfold decHi
  rw [show (2 * 261888 : Int) = 523776 from rfl, cen32]
  generalize hk : (x + 261887) / 523776 = k
  have hb : ((x + 127) / 128 * 1025 + 2097152) / 4194304 = k := by omega
  rw [hb]
  split <;> omega
theorem hb88_eq (x : Int) (h0 : 0 ≤ x) (h1 : x < 8380417) : (if ((x + 127) / 128 * 11275 + 8388608) / 16777216 = 44 then 0 else ((x + 127) / 128 * 11275 + 8388608) / 16777216) = decHi x 95232 := by
  unfold decHi
  rw [show (2 * 95232 : Int) = 190464 from rfl, cen88]
  generalize hk : (x + 95231) / 190464 = k
  have hb : ((x + 127) / 128 * 11275 + 8388608) / 16777216 = k := by omega
  rw [hb]
  split <;> split <;> omega
theorem decHi32_bd (x : Int) (h0 : 0 ≤ x) (h1 : x < 8380417) : 0 ≤ decHi x 261888 ∧ decHi x 261888 ≤ 15 := by
  rw [← hb32_eq x h0 h1]; omega
theorem decHi88_bd (x : Int) (h0 : 0 ≤ x) (h1 : x < 8380417) : 0 ≤ decHi x 95232 ∧ decHi x 95232 ≤ 43 := by
  unfold decHi
  rw [show (2 * 95232 : Int) = 190464 from rfl, cen88]
  split <;> omega
theorem lo32_eq (x : Int) (h0 : 0 ≤ x) (h1 : x < 8380417) : (if 4190209 ≤ x - decHi x 261888 * 523776 then x - decHi x 261888 * 523776 - 8380417 else x - decHi x 261888 * 523776) = decLo x 261888 := by
  unfold decHi decLo
  rw [show (2 * 261888 : Int) = 523776 from rfl]
  have := cen32 x
  generalize cen x 523776 = c at *
  rw [this]
  generalize hk : (x + 261887) / 523776 = k at *
  split <;> split <;> omega
theorem lo88_eq (x : Int) (h0 : 0 ≤ x) (h1 : x < 8380417) : (if 4190209 ≤ x - decHi x 95232 * 190464 then x - decHi x 95232 * 190464 - 8380417 else x - decHi x 95232 * 190464) = decLo x 95232 := by
  unfold decHi decLo
  rw [show (2 * 95232 : Int) = 190464 from rfl]
  have := cen88 x
  generalize cen x 190464 = c at *
  rw [this]
  generalize hk : (x + 95231) / 190464 = k at *
  split <;> split <;> omega



theorem centeredMod (x : Int) (w : World) (h0 : 0 ≤ x) (h1 : x < 4294967296) :
    Calls Tryd.prog 58 #[.int .u32 x] w fun e w' => e = .returned (.int .i32 (cen (mred x) 8380417)) ∧ w = w' := by
  have hm0 := mred_lo x
  have hm1 := mred_hi x
  rw [cen_q _ hm0 hm1]
  by_cases h : mred x ≤ 4190208
  · rw [if_pos h]
    go_enter Tryd.func58, Tryd.ntmps58
    go_wp2_with (first | (go_at_call 60; refine (fromMont _ _ h0 h1).mono ?_; rintro e w' ⟨rfl, rfl⟩) | (go_at_call 61; refine (selLE _ _ _ _ _ (by omega) (by omega) (by omega) (by omega) (by omega) (by omega) (by omega) (by omega)).mono ?_; rintro e w' ⟨rfl, rfl⟩; rw [if_pos h]) | go_in)
    go_ret
    exact ⟨rfl, rfl⟩
  · rw [if_neg h]
    go_enter Tryd.func58, Tryd.ntmps58
    go_wp2_with (first | (go_at_call 60; refine (fromMont _ _ h0 h1).mono ?_; rintro e w' ⟨rfl, rfl⟩) | (go_at_call 61; refine (selLE _ _ _ _ _ (by omega) (by omega) (by omega) (by omega) (by omega) (by omega) (by omega) (by omega)).mono ?_; rintro e w' ⟨rfl, rfl⟩; rw [if_neg h]) | go_in)
    go_ret
    exact ⟨rfl, rfl⟩


theorem p2_lo (x : Int) (h0 : 0 ≤ x) (h1 : x < 8380417) : 0 ≤ (x + 4095) / 8192 ∧ (x + 4095) / 8192 * 8192 < 8380417 := by omega
theorem p2_cen (x : Int) : cen x 8192 = x - (x + 4095) / 8192 * 8192 := by unfold cen; split <;> omega
theorem p2_hi (x : Int) : (x - cen x 8192) / 8192 = (x + 4095) / 8192 := by rw [p2_cen]; omega




/-! ### The reference's own -/
theorem tmod_neg (a m : Int) (ha : a < 0) (hm : 0 < m) : a.tmod m = if a % m = 0 then 0 else a % m - m := by
  rw [Int.tmod_eq_emod]
  have h1 := Int.emod_nonneg a (show m ≠ 0 by omega)
  by_cases hz : a % m = 0
  · rw [if_pos (.inr (Int.dvd_of_emod_eq_zero hz)), if_pos hz]; omega
  · have : ¬ m ∣ a := fun h => hz (Int.emod_eq_zero_of_dvd h)
    rw [if_neg (by simp [this]; omega), if_neg hz]
    have : (m.natAbs : Int) = m := by omega
    omega

set_option maxHeartbeats 400000 in
theorem spCentred (a m : Int) (w : World) (a0 : -4611686018427387904 ≤ a) (a1 : a < 4611686018427387904) (m0 : 0 < m) (m1 : m < 2147483648) :
    Calls Tryd.prog 34 #[.int .i64 a, .int .i64 m] w fun e w' => e = .returned (.int .i64 (cen a m)) ∧ w = w' := by
  have h1 := Int.emod_nonneg a (show m ≠ 0 by omega)
  have h2 := Int.emod_lt_of_pos a m0
  have hmz : (m == 0) = false := by simp; omega
  have hmz' : ¬ m = 0 := by omega
  unfold cen
  generalize hr : a % m = r at *
  have HR := Lib.hid hr; clear hr
  by_cases ha : 0 ≤ a
  · have et : a.tmod m = r := by rw [Int.tmod_eq_emod_of_nonneg ha]; exact HR.out
    have et2 : a % m = r := HR.out
    by_cases hc : m < 2 * r
    · rw [if_pos hc]
      go_enter Tryd.func34, Tryd.ntmps34
      go_wp2
      go_ret
      exact ⟨rfl, rfl⟩
    · rw [if_neg hc]
      go_enter Tryd.func34, Tryd.ntmps34
      go_wp2
      go_ret
      exact ⟨rfl, rfl⟩
  · by_cases hz : r = 0
    · have et : a.tmod m = 0 := by rw [tmod_neg a m (by omega) m0, HR.out, if_pos hz]
      subst hz
      rw [if_neg (by omega)]
      go_enter Tryd.func34, Tryd.ntmps34
      go_wp2
      go_ret
      exact ⟨rfl, rfl⟩
    · have et : a.tmod m = r - m := by rw [tmod_neg a m (by omega) m0, HR.out, if_neg hz]
      by_cases hc : m < 2 * r
      · rw [if_pos hc]
        go_enter Tryd.func34, Tryd.ntmps34
        go_wp2
        go_ret
        exact ⟨ret_int (by omega), rfl⟩
      · rw [if_neg hc]
        go_enter Tryd.func34, Tryd.ntmps34
        go_wp2
        go_ret
        exact ⟨ret_int (by omega), rfl⟩

theorem cen_bd (a m : Int) (hm : 0 < m) : -m ≤ cen a m ∧ cen a m ≤ m := by
  have h1 := Int.emod_nonneg a (show m ≠ 0 by omega)
  have h2 := Int.emod_lt_of_pos a hm
  unfold cen; split <;> omega



theorem dec32_nn (a : Int) (h : 0 ≤ a) : 0 ≤ a - cen a (2 * 261888) := by rw [show (2 * 261888 : Int) = 523776 from rfl, cen32]; omega
theorem dec88_nn (a : Int) (h : 0 ≤ a) : 0 ≤ a - cen a (2 * 95232) := by rw [show (2 * 95232 : Int) = 190464 from rfl, cen88]; omega
theorem decLo32_bd (x : Int) (h0 : 0 ≤ x) (h1 : x < 8380417) : -261888 ≤ decLo x 261888 ∧ decLo x 261888 ≤ 261888 := by
  have := cen32 x
  unfold decLo
  rw [show (2 * 261888 : Int) = 523776 from rfl]
  split <;> omega
theorem decLo88_bd (x : Int) (h0 : 0 ≤ x) (h1 : x < 8380417) : -95232 ≤ decLo x 95232 ∧ decLo x 95232 ≤ 95232 := by
  have := cen88 x
  unfold decLo
  rw [show (2 * 95232 : Int) = 190464 from rfl]
  split <;> omega

/-- The multiple that a hint tells. -/
def useH (h : Bool) (r g m : Int) : Int := if h then (if 0 < decLo r g then (decHi r g + 1) % m else (decHi r g + m - 1) % m) else decHi r g

/-- A hint. -/
def mkH (a b g : Int) : Int := if decHi a g = decHi b g then 0 else 1








end Go.Proofs.YtanfpnidlgejhaaDoor
