/-
  Contracts of rounding and hints, and of the reference's own.
-/
import Derived.Test.YtkckbfjimlmjhaaDoorField
namespace Go.Proofs.YtkckbfjimlmjhaaDoor
open Go.RowKit

/-! ### Plain functions -/
/-- The number that is a modulo m, above -m / 2 and at most m / 2. -/
def cen (a m : Int) : Int := if m < 2 * (a % m) then a % m - m else a % m
def decHi (r g : Int) : Int := if r - cen r (2 * g) = 8380416 then 0 else (r - cen r (2 * g)) / (2 * g)
def decLo (r g : Int) : Int := if r - cen r (2 * g) = 8380416 then cen r (2 * g) - 1 else cen r (2 * g)

theorem cen_q (x : Int) (h0 : 0 ≤ x) (h1 : x < 8380417) : cen x 8380417 = if x ≤ 4190208 then x else x - 8380417 := by
  unfold cen; split <;> split <;> omega

/-- The rounded multiple of 523776. -/
theorem cen32 (x : Int) : x - cen x 523776 = 523776 * ((x + 261887) / 523776) := by
  unfold cen; split <;> omega
theorem cen88 (x : Int) : x - cen x 190464 = 190464 * ((x + 95231) / 190464) := by
  unfold cen; split <;> omega

theorem hb32_eq (x : Int) (h0 : 0 ≤ x) (h1 : x < 8380417) : ((x + 127) / 128 * 1025 + 2097152) / 4194304 % 16 = decHi x 261888 := by
  unfold decHi
  rw [show (2 * 261888 : Int) = 523776 from rfl, cen32]
  generalize hk : (x + 261887) / 523776 = k
  have hb : ((x + 127) / 128 * 1025 + 2097152) / 4194304 = k := by omega
  rw [hb]
  split <;> omega
theorem hb88_eq (x : Int) (h0 : 0 ≤ x) (h1 : x < 8380417) : (if ((x + 127) / 128 * 11275 + 8388608) / 16777216 = 44 then 0 else ((x + 127) / 128 * 11275 + 8388608) / 16777216) = decHi x 95232 := by
  unfold decHi
  rw [show (2 * 95232 : Int) = 190464 from rfl, cen88]
  generalize hk : (x + 95231) / 190464 = k
  have hb : ((x + 127) / 128 * 11275 + 8388608) / 16777216 = k := by omega
  rw [hb]
  split <;> split <;> omega
theorem decHi32_bd (x : Int) (h0 : 0 ≤ x) (h1 : x < 8380417) : 0 ≤ decHi x 261888 ∧ decHi x 261888 ≤ 15 := by
  rw [← hb32_eq x h0 h1]; omega
theorem decHi88_bd (x : Int) (h0 : 0 ≤ x) (h1 : x < 8380417) : 0 ≤ decHi x 95232 ∧ decHi x 95232 ≤ 43 := by
  unfold decHi
  rw [show (2 * 95232 : Int) = 190464 from rfl, cen88]
  split <;> omega
theorem lo32_eq (x : Int) (h0 : 0 ≤ x) (h1 : x < 8380417) : (if 4190209 ≤ x - decHi x 261888 * 523776 then x - decHi x 261888 * 523776 - 8380417 else x - decHi x 261888 * 523776) = decLo x 261888 := by
  unfold decHi decLo
  rw [show (2 * 261888 : Int) = 523776 from rfl]
  have := cen32 x
  generalize cen x 523776 = c at *
  rw [this]
  generalize hk : (x + 261887) / 523776 = k at *
  split <;> split <;> omega
theorem lo88_eq (x : Int) (h0 : 0 ≤ x) (h1 : x < 8380417) : (if 4190209 ≤ x - decHi x 95232 * 190464 then x - decHi x 95232 * 190464 - 8380417 else x - decHi x 95232 * 190464) = decLo x 95232 := by
  unfold decHi decLo
  rw [show (2 * 95232 : Int) = 190464 from rfl]
  have := cen88 x
  generalize cen x 190464 = c at *
  rw [this]
  generalize hk : (x + 95231) / 190464 = k at *
  split <;> split <;> omega

set_option maxHeartbeats 400000 in
theorem highBits32 (x : Int) (w : World) (h0 : 0 ≤ x) (h1 : x < 8380417) :
    Calls Tryd.prog 36 #[.int .u32 x] w fun e w' => e = .returned (.int .u8 (decHi x 261888)) ∧ w = w' := by
  go_enter Tryd.func36, Tryd.ntmps36
  go_wp2
  go_ret
  refine ⟨ret_int ?_, rfl⟩
  rw [u32_and15 _ (by omega) (by omega)]
  have := hb32_eq x h0 h1
  omega

set_option maxHeartbeats 400000 in
theorem highBits88 (x : Int) (w : World) (h0 : 0 ≤ x) (h1 : x < 8380417) :
    Calls Tryd.prog 38 #[.int .u32 x] w fun e w' => e = .returned (.int .u8 (decHi x 95232)) ∧ w = w' := by
  have hh := hb88_eq x h0 h1
  have hd := decHi88_bd x h0 h1
  go_enter Tryd.func38, Tryd.ntmps38
  go_wp2_with (first | (go_at_call 47; refine (selEq _ _ _ _ _ (by omega) (by omega) (by omega) (by omega) (by omega) (by omega) (by omega) (by omega)).mono ?_; rintro e w' ⟨rfl, rfl⟩; rw [hh]) | go_in)
  go_ret
  exact ⟨rfl, rfl⟩



theorem p2_lo (x : Int) (h0 : 0 ≤ x) (h1 : x < 8380417) : 0 ≤ (x + 4095) / 8192 ∧ (x + 4095) / 8192 * 8192 < 8380417 := by omega
theorem p2_cen (x : Int) : cen x 8192 = x - (x + 4095) / 8192 * 8192 := by unfold cen; split <;> omega
theorem p2_hi (x : Int) : (x - cen x 8192) / 8192 = (x + 4095) / 8192 := by rw [p2_cen]; omega


set_option maxHeartbeats 400000 in
theorem decompose32 (x : Int) (w : World) (h0 : 0 ≤ x) (h1 : x < 4294967296) :
    Calls Tryd.prog 43 #[.int .u32 x] w fun e w' => e = .returned (.tuple #[.int .u8 (decHi (mred x) 261888), .int .i32 (decLo (mred x) 261888)]) ∧ w = w' := by
  have hm0 := mred_lo x
  have hm1 := mred_hi x
  obtain ⟨hd0, hd1⟩ := decHi32_bd _ hm0 hm1
  have HL := Lib.hid (lo32_eq _ hm0 hm1)
  have he : decHi (mred x) 261888 * 2 * 8380416 / 32 = decHi (mred x) 261888 * 523776 := by omega
  go_enter Tryd.func43, Tryd.ntmps43
  go_wp2_with (first | (go_at_call 37; refine (fromMont _ _ h0 h1).mono ?_; rintro e w' ⟨rfl, rfl⟩) | (go_at_call 36; refine (highBits32 _ _ hm0 hm1).mono ?_; rintro e w' ⟨rfl, rfl⟩) | (go_at_call 51; refine (selLE _ _ _ _ _ (by omega) (by omega) (by omega) (by omega) (by omega) (by omega) (by omega) (by omega)).mono ?_; rintro e w' ⟨rfl, rfl⟩; rw [HL.out]))
  go_ret2
  exact ⟨rfl, rfl⟩

set_option maxHeartbeats 400000 in
theorem decompose88 (x : Int) (w : World) (h0 : 0 ≤ x) (h1 : x < 4294967296) :
    Calls Tryd.prog 45 #[.int .u32 x] w fun e w' => e = .returned (.tuple #[.int .u8 (decHi (mred x) 95232), .int .i32 (decLo (mred x) 95232)]) ∧ w = w' := by
  have hm0 := mred_lo x
  have hm1 := mred_hi x
  obtain ⟨hd0, hd1⟩ := decHi88_bd _ hm0 hm1
  have HL := Lib.hid (lo88_eq _ hm0 hm1)
  have he : decHi (mred x) 95232 * 2 * 8380416 / 88 = decHi (mred x) 95232 * 190464 := by omega
  go_enter Tryd.func45, Tryd.ntmps45
  go_wp2_with (first | (go_at_call 37; refine (fromMont _ _ h0 h1).mono ?_; rintro e w' ⟨rfl, rfl⟩) | (go_at_call 38; refine (highBits88 _ _ hm0 hm1).mono ?_; rintro e w' ⟨rfl, rfl⟩) | (go_at_call 51; refine (selLE _ _ _ _ _ (by omega) (by omega) (by omega) (by omega) (by omega) (by omega) (by omega) (by omega)).mono ?_; rintro e w' ⟨rfl, rfl⟩; rw [HL.out]))
  go_ret2
  exact ⟨rfl, rfl⟩

/-! ### The reference's own -/
theorem tmod_neg (a m : Int) (ha : a < 0) (hm : 0 < m) : a.tmod m = if a % m = 0 then 0 else a % m - m := by
  rw [Int.tmod_eq_emod]
  have h1 := Int.emod_nonneg a (show m ≠ 0 by omega)
  by_cases hz : a % m = 0
  · rw [if_pos (.inr (Int.dvd_of_emod_eq_zero hz)), if_pos hz]; omega
  · have : ¬ m ∣ a := fun h => hz (Int.emod_eq_zero_of_dvd h)
    rw [if_neg (by simp [this]; omega), if_neg hz]
    have : (m.natAbs : Int) = m := by omega
    omega

set_option maxHeartbeats 400000 in
theorem spCentred (a m : Int) (w : World) (a0 : -4611686018427387904 ≤ a) (a1 : a < 4611686018427387904) (m0 : 0 < m) (m1 : m < 2147483648) :
    Calls Tryd.prog 25 #[.int .i64 a, .int .i64 m] w fun e w' => e = .returned (.int .i64 (cen a m)) ∧ w = w' := by
  have h1 := Int.emod_nonneg a (show m ≠ 0 by omega)
  have h2 := Int.emod_lt_of_pos a m0
  have hmz : (m == 0) = false := by simp; omega
  have hmz' : ¬ m = 0 := by omega
  unfold cen
  generalize hr : a % m = r at *
  have HR := Lib.hid hr; clear hr
  by_cases ha : 0 ≤ a
  · have et : a.tmod m = r := by rw [Int.tmod_eq_emod_of_nonneg ha]; exact HR.out
    have et2 : a % m = r := HR.out
    by_cases hc : m < 2 * r
    · rw [if_pos hc]
      go_enter Tryd.func25, Tryd.ntmps25
      go_wp2
      go_ret
      exact ⟨rfl, rfl⟩
    · rw [if_neg hc]
      go_enter Tryd.func25, Tryd.ntmps25
      go_wp2
      go_ret
      exact ⟨rfl, rfl⟩
  · by_cases hz : r = 0
    · have et : a.tmod m = 0 := by rw [tmod_neg a m (by omega) m0, HR.out, if_pos hz]
      subst hz
      rw [if_neg (by omega)]
      go_enter Tryd.func25, Tryd.ntmps25
      go_wp2
      go_ret
      exact ⟨rfl, rfl⟩
    · have et : a.tmod m = r - m := by rw [tmod_neg a m (by omega) m0, HR.out, if_neg hz]
      by_cases hc : m < 2 * r
      · rw [if_pos hc]
        go_enter Tryd.func25, Tryd.ntmps25
        go_wp2
        go_ret
        exact ⟨ret_int (by omega), rfl⟩
      · rw [if_neg hc]
        go_enter Tryd.func25, Tryd.ntmps25
        go_wp2
        go_ret
        exact ⟨ret_int (by omega), rfl⟩

theorem cen_bd (a m : Int) (hm : 0 < m) : -m ≤ cen a m ∧ cen a m ≤ m := by
  have h1 := Int.emod_nonneg a (show m ≠ 0 by omega)
  have h2 := Int.emod_lt_of_pos a hm
  unfold cen; split <;> omega


set_option maxHeartbeats 400000 in
theorem spDecompose (a g : Int) (w : World) (a0 : 0 ≤ a) (a1 : a < 4294967296) (g0 : 0 < g) (g1 : g < 1073741824) (hn : 0 ≤ a - cen a (2 * g)) :
    Calls Tryd.prog 10 #[.int .i64 a, .int .i64 g] w fun e w' => e = .returned (.tuple #[.int .i64 (decHi a g), .int .i64 (decLo a g)]) ∧ w = w' := by
  obtain ⟨hc0, hc1⟩ := cen_bd a (2 * g) (by omega)
  unfold decHi decLo
  by_cases h : a - cen a (2 * g) = 8380416
  · rw [if_pos h, if_pos h]
    have hb : (a - cen a (2 * g) == 8380416) = true := by simp [h]
    clear h
    go_enter Tryd.func10, Tryd.ntmps10
    go_wp2_with (go_at_call 25; refine (spCentred _ _ _ (by omega) (by omega) (by omega) (by omega)).mono ?_; rintro e w' ⟨rfl, rfl⟩)
    go_ret2
    exact ⟨rfl, rfl⟩
  · rw [if_neg h, if_neg h]
    have hb : (a - cen a (2 * g) == 8380416) = false := by simp [h]
    clear h
    go_enter Tryd.func10, Tryd.ntmps10
    go_wp2_with (go_at_call 25; refine (spCentred _ _ _ (by omega) (by omega) (by omega) (by omega)).mono ?_; rintro e w' ⟨rfl, rfl⟩)
    go_ret2
    exact ⟨rfl, rfl⟩

theorem dec32_nn (a : Int) (h : 0 ≤ a) : 0 ≤ a - cen a (2 * 261888) := by rw [show (2 * 261888 : Int) = 523776 from rfl, cen32]; omega
theorem dec88_nn (a : Int) (h : 0 ≤ a) : 0 ≤ a - cen a (2 * 95232) := by rw [show (2 * 95232 : Int) = 190464 from rfl, cen88]; omega
theorem decLo32_bd (x : Int) (h0 : 0 ≤ x) (h1 : x < 8380417) : -261888 ≤ decLo x 261888 ∧ decLo x 261888 ≤ 261888 := by
  have := cen32 x
  unfold decLo
  rw [show (2 * 261888 : Int) = 523776 from rfl]
  split <;> omega
theorem decLo88_bd (x : Int) (h0 : 0 ≤ x) (h1 : x < 8380417) : -95232 ≤ decLo x 95232 ∧ decLo x 95232 ≤ 95232 := by
  have := cen88 x
  unfold decLo
  rw [show (2 * 95232 : Int) = 190464 from rfl]
  split <;> omega

/-- The multiple that a hint tells. -/
def useH (h : Bool) (r g m : Int) : Int := if h then (if 0 < decLo r g then (decHi r g + 1) % m else (decHi r g + m - 1) % m) else decHi r g

/-- A hint. -/
def mkH (a b g : Int) : Int := if decHi a g = decHi b g then 0 else 1

set_option maxHeartbeats 1000000 in
theorem useHint32 (x : Int) (h : Bool) (w : World) (h0 : 0 ≤ x) (h1 : x < 4294967296) :
    Calls Tryd.prog 39 #[.int .u32 x, .int .u8 (if h then 1 else 0)] w fun e w' => e = .returned (.int .u8 (useH h (mred x) 261888 16)) ∧ w = w' := by
  have hm0 := mred_lo x
  have hm1 := mred_hi x
  obtain ⟨hd0, hd1⟩ := decHi32_bd _ hm0 hm1
  obtain ⟨hl0, hl1⟩ := decLo32_bd _ hm0 hm1
  unfold useH
  cases h with
  | false =>
    simp only [Bool.false_eq_true, if_false]
    go_enter Tryd.func39, Tryd.ntmps39
    go_wp2_with (go_at_call 43; refine (decompose32 _ _ h0 h1).mono ?_; rintro e w' ⟨rfl, rfl⟩)
    go_ret
    exact ⟨rfl, rfl⟩
  | true =>
    simp only [if_true]
    generalize hH : decHi (mred x) 261888 = d at *
    generalize hL : decLo (mred x) 261888 = l at *
    have HH := Lib.hid hH; clear hH
    have HL := Lib.hid hL; clear hL
    by_cases hp : 0 < l
    · rw [if_pos hp]
      by_cases he : d = 15
      · have hb : (d == 15) = true := by simp [he]
        have HE := Lib.hid he; clear he
        go_enter Tryd.func39, Tryd.ntmps39
        go_wp2_with (go_at_call 43; refine (decompose32 _ _ h0 h1).mono ?_; rintro e w' ⟨rfl, rfl⟩; rw [HH.out, HL.out])
        go_ret
        exact ⟨ret_int (by have := HE.out; omega), rfl⟩
      · have hb : (d == 15) = false := by simp [he]
        go_enter Tryd.func39, Tryd.ntmps39
        go_wp2_with (go_at_call 43; refine (decompose32 _ _ h0 h1).mono ?_; rintro e w' ⟨rfl, rfl⟩; rw [HH.out, HL.out])
        go_ret
        exact ⟨ret_int (by omega), rfl⟩
    · rw [if_neg hp]
      by_cases he : d = 0
      · have hb : (d == 0) = true := by simp [he]
        have HE := Lib.hid he; clear he
        go_enter Tryd.func39, Tryd.ntmps39
        go_wp2_with (go_at_call 43; refine (decompose32 _ _ h0 h1).mono ?_; rintro e w' ⟨rfl, rfl⟩; rw [HH.out, HL.out])
        go_ret
        exact ⟨ret_int (by have := HE.out; omega), rfl⟩
      · have hb : (d == 0) = false := by simp [he]
        have hd2 : 1 ≤ d := by omega
        go_enter Tryd.func39, Tryd.ntmps39
        go_wp2_with (go_at_call 43; refine (decompose32 _ _ h0 h1).mono ?_; rintro e w' ⟨rfl, rfl⟩; rw [HH.out, HL.out])
        go_ret
        exact ⟨ret_int (by omega), rfl⟩

set_option maxHeartbeats 1000000 in
theorem makeHint32 (t x c : Int) (w : World) (t0 : 0 ≤ t) (t1 : t < 8380417) (x0 : 0 ≤ x) (x1 : x < 8380417) (c0 : 0 ≤ c) (c1 : c < 8380417) :
    Calls Tryd.prog 41 #[.int .u32 t, .int .u32 x, .int .u32 c] w fun e w' => e = .returned (.int .u8 (mkH (mred ((x + 8380417 - c) % 8380417)) (mred (((x + 8380417 - c) % 8380417 + t) % 8380417)) 261888)) ∧ w = w' := by
  obtain ⟨d0, d1⟩ : 0 ≤ (x + 8380417 - c) % 8380417 ∧ (x + 8380417 - c) % 8380417 < 8380417 := by omega
  generalize hd : (x + 8380417 - c) % 8380417 = d at *
  have HD := Lib.hid hd; clear hd
  obtain ⟨s0, s1⟩ : 0 ≤ (d + t) % 8380417 ∧ (d + t) % 8380417 < 8380417 := by omega
  generalize hs : (d + t) % 8380417 = s at *
  have HS := Lib.hid hs; clear hs
  have ha0 := mred_lo d
  have ha1 := mred_hi d
  have hb0 := mred_lo s
  have hb1 := mred_hi s
  unfold mkH
  obtain ⟨ga0, ga1⟩ := decHi32_bd _ ha0 ha1
  obtain ⟨gb0, gb1⟩ := decHi32_bd _ hb0 hb1
  by_cases he : decHi (mred d) 261888 = decHi (mred s) 261888
  · rw [if_pos he]
    have hb : (decHi (mred d) 261888 == decHi (mred s) 261888) = true := by simp [he]
    clear he
    go_enter Tryd.func41, Tryd.ntmps41
    go_wp2_with (first | (go_at_call 48; refine (fieldSub _ _ _ x0 x1 c0 c1).mono ?_; rintro e w' ⟨rfl, rfl⟩; rw [HD.out]) | (go_at_call 49; refine (fieldAdd _ _ _ d0 d1 t0 t1).mono ?_; rintro e w' ⟨rfl, rfl⟩; rw [HS.out]) | (go_at_call 37; refine (fromMont _ _ (by assumption) (by omega)).mono ?_; rintro e w' ⟨rfl, rfl⟩) | (go_at_call 36; refine (highBits32 _ _ (mred_lo _) (mred_hi _)).mono ?_; rintro e w' ⟨rfl, rfl⟩) | go_in)
    go_ret
    exact ⟨rfl, rfl⟩
  · rw [if_neg he]
    have hb : (decHi (mred d) 261888 == decHi (mred s) 261888) = false := by simp [he]
    clear he
    go_enter Tryd.func41, Tryd.ntmps41
    go_wp2_with (first | (go_at_call 48; refine (fieldSub _ _ _ x0 x1 c0 c1).mono ?_; rintro e w' ⟨rfl, rfl⟩; rw [HD.out]) | (go_at_call 49; refine (fieldAdd _ _ _ d0 d1 t0 t1).mono ?_; rintro e w' ⟨rfl, rfl⟩; rw [HS.out]) | (go_at_call 37; refine (fromMont _ _ (by assumption) (by omega)).mono ?_; rintro e w' ⟨rfl, rfl⟩) | (go_at_call 36; refine (highBits32 _ _ (mred_lo _) (mred_hi _)).mono ?_; rintro e w' ⟨rfl, rfl⟩) | go_in)
    go_ret
    exact ⟨rfl, rfl⟩

set_option maxHeartbeats 1000000 in
theorem spUseHint32 (h : Bool) (r : Int) (w : World) (h0 : 0 ≤ r) (h1 : r < 8380417) :
    Calls Tryd.prog 13 #[.bool h, .int .i64 r, .int .i64 261888] w fun e w' => e = .returned (.int .i64 (useH h r 261888 16)) ∧ w = w' := by
  obtain ⟨hd0, hd1⟩ := decHi32_bd _ h0 h1
  obtain ⟨hl0, hl1⟩ := decLo32_bd _ h0 h1
  have hn := dec32_nn r h0
  unfold useH
  cases h with
  | false =>
    simp only [Bool.false_eq_true, if_false]
    go_enter Tryd.func13, Tryd.ntmps13
    go_wp2_with (go_at_call 10; refine (spDecompose _ _ _ h0 (by omega) (by omega) (by omega) hn).mono ?_; rintro e w' ⟨rfl, rfl⟩)
    go_ret
    exact ⟨rfl, rfl⟩
  | true =>
    simp only [if_true]
    by_cases hp : 0 < decLo r 261888
    · rw [if_pos hp]
      go_enter Tryd.func13, Tryd.ntmps13
      go_wp2_with (go_at_call 10; refine (spDecompose _ _ _ h0 (by omega) (by omega) (by omega) hn).mono ?_; rintro e w' ⟨rfl, rfl⟩)
      go_ret
      exact ⟨rfl, rfl⟩
    · rw [if_neg hp]
      go_enter Tryd.func13, Tryd.ntmps13
      go_wp2_with (go_at_call 10; refine (spDecompose _ _ _ h0 (by omega) (by omega) (by omega) hn).mono ?_; rintro e w' ⟨rfl, rfl⟩)
      go_ret
      exact ⟨rfl, rfl⟩

set_option maxHeartbeats 1000000 in
theorem spMakeHint32 (z r : Int) (w : World) (z0 : -1099511627776 ≤ z) (z1 : z ≤ 1099511627776) (h0 : 0 ≤ r) (h1 : r < 8380417) :
    Calls Tryd.prog 15 #[.int .i64 z, .int .i64 r, .int .i64 261888] w fun e w' => e = .returned (.bool (decHi r 261888 != decHi ((r + z) % 8380417) 261888)) ∧ w = w' := by
  have hn := dec32_nn r h0
  obtain ⟨s0, s1⟩ : 0 ≤ (r + z) % 8380417 ∧ (r + z) % 8380417 < 8380417 := by omega
  have hs := dec32_nn ((r + z) % 8380417) s0
  go_enter Tryd.func15, Tryd.ntmps15
  go_wp2_with fail
  refine (spDecompose _ _ _ h0 (by omega) (by omega) (by omega) hn).mono ?_
  rintro e w' ⟨rfl, rfl⟩
  go_wp2_with fail
  refine (spMod _ _ (by omega) (by omega)).mono ?_
  rintro e w' ⟨rfl, rfl⟩
  go_wp2_with fail
  refine (spDecompose _ _ _ s0 (by omega) (by omega) (by omega) hs).mono ?_
  rintro e w' ⟨rfl, rfl⟩
  go_wp2_with fail
  go_ret
  exact ⟨rfl, rfl⟩

set_option maxHeartbeats 1000000 in
theorem useHint88 (x : Int) (h : Bool) (w : World) (h0 : 0 ≤ x) (h1 : x < 4294967296) :
    Calls Tryd.prog 40 #[.int .u32 x, .int .u8 (if h then 1 else 0)] w fun e w' => e = .returned (.int .u8 (useH h (mred x) 95232 44)) ∧ w = w' := by
  have hm0 := mred_lo x
  have hm1 := mred_hi x
  obtain ⟨hd0, hd1⟩ := decHi88_bd _ hm0 hm1
  obtain ⟨hl0, hl1⟩ := decLo88_bd _ hm0 hm1
  unfold useH
  cases h with
  | false =>
    simp only [Bool.false_eq_true, if_false]
    go_enter Tryd.func40, Tryd.ntmps40
    go_wp2_with (go_at_call 45; refine (decompose88 _ _ h0 h1).mono ?_; rintro e w' ⟨rfl, rfl⟩)
    go_ret
    exact ⟨rfl, rfl⟩
  | true =>
    simp only [if_true]
    generalize hH : decHi (mred x) 95232 = d at *
    generalize hL : decLo (mred x) 95232 = l at *
    have HH := Lib.hid hH; clear hH
    have HL := Lib.hid hL; clear hL
    by_cases hp : 0 < l
    · rw [if_pos hp]
      by_cases he : d = 43
      · have hb : (d == 43) = true := by simp [he]
        have HE := Lib.hid he; clear he
        go_enter Tryd.func40, Tryd.ntmps40
        go_wp2_with (go_at_call 45; refine (decompose88 _ _ h0 h1).mono ?_; rintro e w' ⟨rfl, rfl⟩; rw [HH.out, HL.out])
        go_ret
        exact ⟨ret_int (by have := HE.out; omega), rfl⟩
      · have hb : (d == 43) = false := by simp [he]
        go_enter Tryd.func40, Tryd.ntmps40
        go_wp2_with (go_at_call 45; refine (decompose88 _ _ h0 h1).mono ?_; rintro e w' ⟨rfl, rfl⟩; rw [HH.out, HL.out])
        go_ret
        exact ⟨ret_int (by omega), rfl⟩
    · rw [if_neg hp]
      by_cases he : d = 0
      · have hb : (d == 0) = true := by simp [he]
        have HE := Lib.hid he; clear he
        go_enter Tryd.func40, Tryd.ntmps40
        go_wp2_with (go_at_call 45; refine (decompose88 _ _ h0 h1).mono ?_; rintro e w' ⟨rfl, rfl⟩; rw [HH.out, HL.out])
        go_ret
        exact ⟨ret_int (by have := HE.out; omega), rfl⟩
      · have hb : (d == 0) = false := by simp [he]
        have hd2 : 1 ≤ d := by omega
        go_enter Tryd.func40, Tryd.ntmps40
        go_wp2_with (go_at_call 45; refine (decompose88 _ _ h0 h1).mono ?_; rintro e w' ⟨rfl, rfl⟩; rw [HH.out, HL.out])
        go_ret
        exact ⟨ret_int (by omega), rfl⟩

set_option maxHeartbeats 1000000 in
theorem makeHint88 (t x c : Int) (w : World) (t0 : 0 ≤ t) (t1 : t < 8380417) (x0 : 0 ≤ x) (x1 : x < 8380417) (c0 : 0 ≤ c) (c1 : c < 8380417) :
    Calls Tryd.prog 42 #[.int .u32 t, .int .u32 x, .int .u32 c] w fun e w' => e = .returned (.int .u8 (mkH (mred ((x + 8380417 - c) % 8380417)) (mred (((x + 8380417 - c) % 8380417 + t) % 8380417)) 95232)) ∧ w = w' := by
  obtain ⟨d0, d1⟩ : 0 ≤ (x + 8380417 - c) % 8380417 ∧ (x + 8380417 - c) % 8380417 < 8380417 := by omega
  generalize hd : (x + 8380417 - c) % 8380417 = d at *
  have HD := Lib.hid hd; clear hd
  obtain ⟨s0, s1⟩ : 0 ≤ (d + t) % 8380417 ∧ (d + t) % 8380417 < 8380417 := by omega
  generalize hs : (d + t) % 8380417 = s at *
  have HS := Lib.hid hs; clear hs
  have ha0 := mred_lo d
  have ha1 := mred_hi d
  have hb0 := mred_lo s
  have hb1 := mred_hi s
  unfold mkH
  obtain ⟨ga0, ga1⟩ := decHi88_bd _ ha0 ha1
  obtain ⟨gb0, gb1⟩ := decHi88_bd _ hb0 hb1
  by_cases he : decHi (mred d) 95232 = decHi (mred s) 95232
  · rw [if_pos he]
    have hb : (decHi (mred d) 95232 == decHi (mred s) 95232) = true := by simp [he]
    clear he
    go_enter Tryd.func42, Tryd.ntmps42
    go_wp2_with (first | (go_at_call 48; refine (fieldSub _ _ _ x0 x1 c0 c1).mono ?_; rintro e w' ⟨rfl, rfl⟩; rw [HD.out]) | (go_at_call 49; refine (fieldAdd _ _ _ d0 d1 t0 t1).mono ?_; rintro e w' ⟨rfl, rfl⟩; rw [HS.out]) | (go_at_call 37; refine (fromMont _ _ (by assumption) (by omega)).mono ?_; rintro e w' ⟨rfl, rfl⟩) | (go_at_call 38; refine (highBits88 _ _ (mred_lo _) (mred_hi _)).mono ?_; rintro e w' ⟨rfl, rfl⟩) | go_in)
    go_ret
    exact ⟨rfl, rfl⟩
  · rw [if_neg he]
    have hb : (decHi (mred d) 95232 == decHi (mred s) 95232) = false := by simp [he]
    clear he
    go_enter Tryd.func42, Tryd.ntmps42
    go_wp2_with (first | (go_at_call 48; refine (fieldSub _ _ _ x0 x1 c0 c1).mono ?_; rintro e w' ⟨rfl, rfl⟩; rw [HD.out]) | (go_at_call 49; refine (fieldAdd _ _ _ d0 d1 t0 t1).mono ?_; rintro e w' ⟨rfl, rfl⟩; rw [HS.out]) | (go_at_call 37; refine (fromMont _ _ (by assumption) (by omega)).mono ?_; rintro e w' ⟨rfl, rfl⟩) | (go_at_call 38; refine (highBits88 _ _ (mred_lo _) (mred_hi _)).mono ?_; rintro e w' ⟨rfl, rfl⟩) | go_in)
    go_ret
    exact ⟨rfl, rfl⟩

set_option maxHeartbeats 1000000 in
theorem spUseHint88 (h : Bool) (r : Int) (w : World) (h0 : 0 ≤ r) (h1 : r < 8380417) :
    Calls Tryd.prog 13 #[.bool h, .int .i64 r, .int .i64 95232] w fun e w' => e = .returned (.int .i64 (useH h r 95232 44)) ∧ w = w' := by
  obtain ⟨hd0, hd1⟩ := decHi88_bd _ h0 h1
  obtain ⟨hl0, hl1⟩ := decLo88_bd _ h0 h1
  have hn := dec88_nn r h0
  unfold useH
  cases h with
  | false =>
    simp only [Bool.false_eq_true, if_false]
    go_enter Tryd.func13, Tryd.ntmps13
    go_wp2_with (go_at_call 10; refine (spDecompose _ _ _ h0 (by omega) (by omega) (by omega) hn).mono ?_; rintro e w' ⟨rfl, rfl⟩)
    go_ret
    exact ⟨rfl, rfl⟩
  | true =>
    simp only [if_true]
    by_cases hp : 0 < decLo r 95232
    · rw [if_pos hp]
      go_enter Tryd.func13, Tryd.ntmps13
      go_wp2_with (go_at_call 10; refine (spDecompose _ _ _ h0 (by omega) (by omega) (by omega) hn).mono ?_; rintro e w' ⟨rfl, rfl⟩)
      go_ret
      exact ⟨rfl, rfl⟩
    · rw [if_neg hp]
      go_enter Tryd.func13, Tryd.ntmps13
      go_wp2_with (go_at_call 10; refine (spDecompose _ _ _ h0 (by omega) (by omega) (by omega) hn).mono ?_; rintro e w' ⟨rfl, rfl⟩)
      go_ret
      exact ⟨rfl, rfl⟩

set_option maxHeartbeats 1000000 in
theorem spMakeHint88 (z r : Int) (w : World) (z0 : -1099511627776 ≤ z) (z1 : z ≤ 1099511627776) (h0 : 0 ≤ r) (h1 : r < 8380417) :
    Calls Tryd.prog 15 #[.int .i64 z, .int .i64 r, .int .i64 95232] w fun e w' => e = .returned (.bool (decHi r 95232 != decHi ((r + z) % 8380417) 95232)) ∧ w = w' := by
  have hn := dec88_nn r h0
  obtain ⟨s0, s1⟩ : 0 ≤ (r + z) % 8380417 ∧ (r + z) % 8380417 < 8380417 := by omega
  have hs := dec88_nn ((r + z) % 8380417) s0
  go_enter Tryd.func15, Tryd.ntmps15
  go_wp2_with fail
  refine (spDecompose _ _ _ h0 (by omega) (by omega) (by omega) hn).mono ?_
  rintro e w' ⟨rfl, rfl⟩
  go_wp2_with fail
  refine (spMod _ _ (by omega) (by omega)).mono ?_
  rintro e w' ⟨rfl, rfl⟩
  go_wp2_with fail
  refine (spDecompose _ _ _ s0 (by omega) (by omega) (by omega) hs).mono ?_
  rintro e w' ⟨rfl, rfl⟩
  go_wp2_with fail
  go_ret
  exact ⟨rfl, rfl⟩
end Go.Proofs.YtkckbfjimlmjhaaDoor
