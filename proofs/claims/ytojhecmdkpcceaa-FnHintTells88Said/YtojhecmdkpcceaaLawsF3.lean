/-
  A hint of -t tells of w - c + t the multiple of w - c.
-/
import Derived.Test.YtojhecmdkpcceaaRound
import Derived.Test.YtojhecmdkpcceaaReduced
namespace Go.Proofs.Ytojhecmdkpcceaa
open Go.RowKit
set_option linter.unusedVariables false

/-- What 'near' of the laws tells. -/
def nearB (t m : Int) : Bool := decide (cen (mred t) 8380417 ≤ m) && decide (-m ≤ cen (mred t) 8380417)
theorem nearB_true {t m : Int} (h : nearB t m = true) : cen (mred t) 8380417 ≤ m ∧ -m ≤ cen (mred t) 8380417 := by
  unfold nearB at h
  simpa using h
theorem lwNear (t m : Int) (w : World) (t0 : 0 ≤ t) (t1 : t < 8380417) (m0 : 0 ≤ m) (m1 : m < 1073741824) :
    Calls Try.prog 6 #[.int .u32 t, .int .i64 m] w fun e w' => e = .returned (.bool (nearB t m)) ∧ w = w' := by
  have hm0 := mred_lo t
  have hm1 := mred_hi t
  obtain ⟨hc0, hc1⟩ := cen_bd (mred t) 8380417 (by omega)
  unfold nearB
  by_cases h1 : cen (mred t) 8380417 ≤ m
  · have hd : decide (cen (mred t) 8380417 ≤ m) = true := by simp [h1]
    rw [hd, Bool.true_and]
    by_cases h2 : -m ≤ cen (mred t) 8380417
    · rw [show decide (-m ≤ cen (mred t) 8380417) = true from by simp [h2]]
      have h3 : -cen (mred t) 8380417 ≤ m := by omega
      clear hd
      go_enter Try.func6, Try.ntmps6
      go_wp2_with (first | (go_at_call 18; refine (spPlain _ _ t0 (by omega)).mono ?_; rintro e w' ⟨rfl, rfl⟩) | (go_at_call 17; refine (spCentred _ _ _ (by omega) (by omega) (by omega) (by omega)).mono ?_; rintro e w' ⟨rfl, rfl⟩))
      go_ret
      exact ⟨ret_bool (by first | (simp; done) | (simp; omega)), rfl⟩
    · rw [show decide (-m ≤ cen (mred t) 8380417) = false from by simp; omega]
      have h3 : ¬ -cen (mred t) 8380417 ≤ m := by omega
      clear hd
      go_enter Try.func6, Try.ntmps6
      go_wp2_with (first | (go_at_call 18; refine (spPlain _ _ t0 (by omega)).mono ?_; rintro e w' ⟨rfl, rfl⟩) | (go_at_call 17; refine (spCentred _ _ _ (by omega) (by omega) (by omega) (by omega)).mono ?_; rintro e w' ⟨rfl, rfl⟩))
      go_ret
      exact ⟨ret_bool (by first | (simp; done) | (simp; omega)), rfl⟩
  · have hd : decide (cen (mred t) 8380417 ≤ m) = false := by simp; omega
    rw [hd, Bool.false_and]
    go_enter Try.func6, Try.ntmps6
    go_wp2_with (first | (go_at_call 18; refine (spPlain _ _ t0 (by omega)).mono ?_; rintro e w' ⟨rfl, rfl⟩) | (go_at_call 17; refine (spCentred _ _ _ (by omega) (by omega) (by omega) (by omega)).mono ?_; rintro e w' ⟨rfl, rfl⟩))
    go_ret
    exact ⟨ret_bool (by first | (simp; done) | (simp; omega)), rfl⟩

theorem dec32_k (x : Int) (h0 : 0 ≤ x) (h1 : x < 8380417) : decHi x 261888 = (if (x + 261887) / 523776 = 16 then 0 else (x + 261887) / 523776) ∧ decLo x 261888 = (if (x + 261887) / 523776 = 16 then x - 8380417 else x - 523776 * ((x + 261887) / 523776)) := by
  unfold decHi decLo
  have := cen32 x
  rw [show (2 * 261888 : Int) = 523776 from rfl]
  constructor
  · rw [this]; split <;> split <;> omega
  · rw [this]; split <;> split <;> omega
theorem tells32_false (D S T : Int) (hD0 : 0 ≤ D) (hD1 : D < 8380417) (hS0 : 0 ≤ S) (hS1 : S < 8380417) (hT0 : -261888 ≤ T) (hT1 : T ≤ 261888) (hr : S = (D + T) % 8380417) (he : decHi D 261888 = decHi S 261888) : useH false S 261888 16 = decHi D 261888 := by
  unfold useH; simp [he]
theorem tells32_true (D S T : Int) (hD0 : 0 ≤ D) (hD1 : D < 8380417) (hS0 : 0 ≤ S) (hS1 : S < 8380417) (hT0 : -261888 ≤ T) (hT1 : T ≤ 261888) (hr : S = (D + T) % 8380417) (he : ¬ decHi D 261888 = decHi S 261888) : useH true S 261888 16 = decHi D 261888 := by
  obtain ⟨a1, a2⟩ := dec32_k D hD0 hD1
  obtain ⟨b1, b2⟩ := dec32_k S hS0 hS1
  unfold useH
  simp only [if_true]
  rw [a1, b1] at he
  rw [a1, b1, b2]
  clear a1 a2 b1 b2
  generalize hkD : (D + 261887) / 523776 = kD at *
  generalize hkS : (S + 261887) / 523776 = kS at *
  have bD : 523776 * kD - 261887 ≤ D ∧ D ≤ 523776 * kD + 261888 := by omega
  have bS : 523776 * kS - 261887 ≤ S ∧ S ≤ 523776 * kS + 261888 := by omega
  have kd : 0 ≤ kD ∧ kD ≤ 16 := by omega
  have ks : 0 ≤ kS ∧ kS ≤ 16 := by omega
  have e1 : D + T - S = 0 ∨ D + T - S = 8380417 ∨ D + T - S = -8380417 := by omega
  clear hr hkD hkS
  by_cases eD : kD = 16
  · subst eD
    rw [if_pos rfl] at he ⊢
    by_cases eS : kS = 16
    · subst eS; rw [if_pos rfl] at he; exact absurd rfl he
    · rw [if_neg eS] at he
      rw [if_neg eS, if_neg eS]
      rcases e1 with e1 | e1 | e1
      all_goals
        first
          | (rw [if_pos (by omega)]; omega)
          | (rw [if_neg (by omega)]; omega)
          | (by_cases hp : 0 < S - 523776 * kS
             · rw [if_pos hp]; omega
             · rw [if_neg hp]; omega)
  · rw [if_neg eD] at he ⊢
    by_cases eS : kS = 16
    · subst eS
      rw [if_pos rfl] at he
      rw [if_pos rfl, if_pos rfl]
      rcases e1 with e1 | e1 | e1
      all_goals
        by_cases hp : 0 < S - 8380417
        · rw [if_pos hp]; omega
        · rw [if_neg hp]; omega
    · rw [if_neg eS] at he
      rw [if_neg eS, if_neg eS]
      rcases e1 with e1 | e1 | e1
      all_goals
        by_cases hp : 0 < S - 523776 * kS
        · rw [if_pos hp]; omega
        · rw [if_neg hp]; omega
theorem hi32_a : decHi 8380415 261888 = 0 := by decide
theorem hi32_b : decHi 523776 261888 = 1 := by decide

set_option maxHeartbeats 400000 in
theorem walkFnHintTells32 (t x c : Int) (w : World) (t0 : 0 ≤ t) (t1 : t < 4294967296) (x0 : 0 ≤ x) (x1 : x < 4294967296) (c0 : 0 ≤ c) (c1 : c < 4294967296) :
    Calls Try.prog 3 #[.int .u32 t, .int .u32 x, .int .u32 c] w fun e w' => e = .returned (.bool true) ∧ Below w.heap.size w w' := by
  go_enter Try.func3, Try.ntmps3
  go_wp2_with fail
  refine (lwReducedNew [t, x, c] _ w (by simp)).mono ?_
  rintro e w' ⟨rfl, rfl⟩
  by_cases h : t < 8380417 ∧ x < 8380417 ∧ c < 8380417
  · obtain ⟨ht, hx, hc⟩ := h
    rw [show ([t, x, c].all fun z => decide (z < 8380417)) = true from by simp [ht, hx, hc]]
    go_wp2_with fail
    refine (lwNear t 261888 _ t0 ht (by omega) (by omega)).mono ?_
    rintro e w' ⟨rfl, rfl⟩
    cases hn : nearB t 261888 with
    | false =>
      go_wp2_with fail
      go_ret
      exact ⟨rfl, (Below.refl _ _).alloc (Nat.le_refl _) _⟩
    | true =>
    obtain ⟨htc1, htc0⟩ := nearB_true hn
    clear hn
    obtain ⟨tc, htc⟩ : ∃ tc, tc = cen (mred t) 8380417 := ⟨_, rfl⟩
    rw [← htc] at htc0 htc1
    obtain ⟨d, hd⟩ : ∃ d, (x + 8380417 - c) % 8380417 = d := ⟨_, rfl⟩
    obtain ⟨s, hs⟩ : ∃ s, (d + t) % 8380417 = s := ⟨_, rfl⟩
    have d0 : 0 ≤ d := by omega
    have d1 : d < 8380417 := by omega
    have s0 : 0 ≤ s := by omega
    have s1 : s < 8380417 := by omega
    have hd0 := mred_lo d
    have hd1 := mred_hi d
    have hs0 := mred_lo s
    have hs1 := mred_hi s
    have hrel : mred s = (mred d + tc) % 8380417 := by
      have hcq := cen_q _ (mred_lo t) (mred_hi t)
      rw [← htc] at hcq
      have h1 : mred s = (mred d + mred t) % 8380417 := by rw [← hs]; unfold mred; omega
      rw [h1, hcq]; split <;> omega
    clear htc
    have HD := Lib.hid hd; clear hd
    have HS := Lib.hid hs; clear hs
    have HR := Lib.hid (show ([d].all fun z => decide (z < 8380417)) = true from by simp [d1])
    by_cases he : decHi (mred d) 261888 = decHi (mred s) 261888
    · have hm : mkH (mred d) (mred s) 261888 = 0 := by unfold mkH; rw [if_pos he]
      have HM := Lib.hid hm; clear hm
      have HU := Lib.hid (fun w => useHint32 s false w s0 (by omega))
      simp only [Bool.false_eq_true, if_false] at HU
      have HT := Lib.hid (tells32_false (mred d) (mred s) tc hd0 hd1 hs0 hs1 htc0 htc1 hrel he)
      clear he hrel
      go_wp2_with (first | (go_at_call 30; refine (fieldSub _ _ _ x0 hx c0 hc).mono ?_; rintro e w' ⟨rfl, rfl⟩; rw [HD.out]) | (go_at_call 31; refine (decompose32 _ _ d0 (by omega)).mono ?_; rintro e w' ⟨rfl, rfl⟩) | (go_at_call 5; refine (lwReducedAt [d] _ _ _ (by simp) (by simp)).mono ?_; rintro e w' ⟨rfl, rfl⟩; rw [HR.out]) | (go_at_call 33; refine (fieldAdd _ _ _ d0 d1 t0 ht).mono ?_; rintro e w' ⟨rfl, rfl⟩; rw [HS.out]) | (go_at_call 34; refine (makeHint32 _ _ _ _ t0 ht x0 hx c0 hc).mono ?_; rintro e w' ⟨rfl, rfl⟩; rw [HD.out, HS.out, HM.out]) | (go_at_call 32; refine (HU.out _).mono ?_; rintro e w' ⟨rfl, rfl⟩; rw [HT.out]) | (go_at_call 35; refine (highBits32 _ _ (by omega) (by omega)).mono ?_; rintro e w' ⟨rfl, rfl⟩; first | rw [hi32_a] | rw [hi32_b]) | go_in)
      go_ret
      exact ⟨rfl, ((Below.refl _ _).alloc (Nat.le_refl _) _).alloc (by simp) _⟩
    · have hm : mkH (mred d) (mred s) 261888 = 1 := by unfold mkH; rw [if_neg he]
      have HM := Lib.hid hm; clear hm
      have HU := Lib.hid (fun w => useHint32 s true w s0 (by omega))
      simp only [if_true] at HU
      have HT := Lib.hid (tells32_true (mred d) (mred s) tc hd0 hd1 hs0 hs1 htc0 htc1 hrel he)
      clear he hrel
      go_wp2_with (first | (go_at_call 30; refine (fieldSub _ _ _ x0 hx c0 hc).mono ?_; rintro e w' ⟨rfl, rfl⟩; rw [HD.out]) | (go_at_call 31; refine (decompose32 _ _ d0 (by omega)).mono ?_; rintro e w' ⟨rfl, rfl⟩) | (go_at_call 5; refine (lwReducedAt [d] _ _ _ (by simp) (by simp)).mono ?_; rintro e w' ⟨rfl, rfl⟩; rw [HR.out]) | (go_at_call 33; refine (fieldAdd _ _ _ d0 d1 t0 ht).mono ?_; rintro e w' ⟨rfl, rfl⟩; rw [HS.out]) | (go_at_call 34; refine (makeHint32 _ _ _ _ t0 ht x0 hx c0 hc).mono ?_; rintro e w' ⟨rfl, rfl⟩; rw [HD.out, HS.out, HM.out]) | (go_at_call 32; refine (HU.out _).mono ?_; rintro e w' ⟨rfl, rfl⟩; rw [HT.out]) | (go_at_call 35; refine (highBits32 _ _ (by omega) (by omega)).mono ?_; rintro e w' ⟨rfl, rfl⟩; first | rw [hi32_a] | rw [hi32_b]) | go_in)
      go_ret
      exact ⟨rfl, ((Below.refl _ _).alloc (Nat.le_refl _) _).alloc (by simp) _⟩
  · rw [show ([t, x, c].all fun z => decide (z < 8380417)) = false from by simp; omega]
    go_wp2_with fail
    go_ret
    exact ⟨rfl, (Below.refl _ _).alloc (Nat.le_refl _) _⟩

theorem dec88_k (x : Int) (h0 : 0 ≤ x) (h1 : x < 8380417) : decHi x 95232 = (if (x + 95231) / 190464 = 44 then 0 else (x + 95231) / 190464) ∧ decLo x 95232 = (if (x + 95231) / 190464 = 44 then x - 8380417 else x - 190464 * ((x + 95231) / 190464)) := by
  unfold decHi decLo
  have := cen88 x
  rw [show (2 * 95232 : Int) = 190464 from rfl]
  constructor
  · rw [this]; split <;> split <;> omega
  · rw [this]; split <;> split <;> omega
theorem tells88_false (D S T : Int) (hD0 : 0 ≤ D) (hD1 : D < 8380417) (hS0 : 0 ≤ S) (hS1 : S < 8380417) (hT0 : -95232 ≤ T) (hT1 : T ≤ 95232) (hr : S = (D + T) % 8380417) (he : decHi D 95232 = decHi S 95232) : useH false S 95232 44 = decHi D 95232 := by
  unfold useH; simp [he]
theorem tells88_true (D S T : Int) (hD0 : 0 ≤ D) (hD1 : D < 8380417) (hS0 : 0 ≤ S) (hS1 : S < 8380417) (hT0 : -95232 ≤ T) (hT1 : T ≤ 95232) (hr : S = (D + T) % 8380417) (he : ¬ decHi D 95232 = decHi S 95232) : useH true S 95232 44 = decHi D 95232 := by
  obtain ⟨a1, a2⟩ := dec88_k D hD0 hD1
  obtain ⟨b1, b2⟩ := dec88_k S hS0 hS1
  unfold useH
  simp only [if_true]
  rw [a1, b1] at he
  rw [a1, b1, b2]
  clear a1 a2 b1 b2
  generalize hkD : (D + 95231) / 190464 = kD at *
  generalize hkS : (S + 95231) / 190464 = kS at *
  have bD : 190464 * kD - 95231 ≤ D ∧ D ≤ 190464 * kD + 95232 := by omega
  have bS : 190464 * kS - 95231 ≤ S ∧ S ≤ 190464 * kS + 95232 := by omega
  have kd : 0 ≤ kD ∧ kD ≤ 44 := by omega
  have ks : 0 ≤ kS ∧ kS ≤ 44 := by omega
  have e1 : D + T - S = 0 ∨ D + T - S = 8380417 ∨ D + T - S = -8380417 := by omega
  clear hr hkD hkS
  by_cases eD : kD = 44
  · subst eD
    rw [if_pos rfl] at he ⊢
    by_cases eS : kS = 44
    · subst eS; rw [if_pos rfl] at he; exact absurd rfl he
    · rw [if_neg eS] at he
      rw [if_neg eS, if_neg eS]
      rcases e1 with e1 | e1 | e1
      all_goals
        first
          | (rw [if_pos (by omega)]; omega)
          | (rw [if_neg (by omega)]; omega)
          | (by_cases hp : 0 < S - 190464 * kS
             · rw [if_pos hp]; omega
             · rw [if_neg hp]; omega)
  · rw [if_neg eD] at he ⊢
    by_cases eS : kS = 44
    · subst eS
      rw [if_pos rfl] at he
      rw [if_pos rfl, if_pos rfl]
      rcases e1 with e1 | e1 | e1
      all_goals
        by_cases hp : 0 < S - 8380417
        · rw [if_pos hp]; omega
        · rw [if_neg hp]; omega
    · rw [if_neg eS] at he
      rw [if_neg eS, if_neg eS]
      rcases e1 with e1 | e1 | e1
      all_goals
        by_cases hp : 0 < S - 190464 * kS
        · rw [if_pos hp]; omega
        · rw [if_neg hp]; omega
theorem hi88_a : decHi 8380415 95232 = 0 := by decide
theorem hi88_b : decHi 190464 95232 = 1 := by decide

set_option maxHeartbeats 400000 in
theorem walkFnHintTells88 (t x c : Int) (w : World) (t0 : 0 ≤ t) (t1 : t < 4294967296) (x0 : 0 ≤ x) (x1 : x < 4294967296) (c0 : 0 ≤ c) (c1 : c < 4294967296) :
    Calls Try.prog 4 #[.int .u32 t, .int .u32 x, .int .u32 c] w fun e w' => e = .returned (.bool true) ∧ Below w.heap.size w w' := by
  go_enter Try.func4, Try.ntmps4
  go_wp2_with fail
  refine (lwReducedNew [t, x, c] _ w (by simp)).mono ?_
  rintro e w' ⟨rfl, rfl⟩
  by_cases h : t < 8380417 ∧ x < 8380417 ∧ c < 8380417
  · obtain ⟨ht, hx, hc⟩ := h
    rw [show ([t, x, c].all fun z => decide (z < 8380417)) = true from by simp [ht, hx, hc]]
    go_wp2_with fail
    refine (lwNear t 95232 _ t0 ht (by omega) (by omega)).mono ?_
    rintro e w' ⟨rfl, rfl⟩
    cases hn : nearB t 95232 with
    | false =>
      go_wp2_with fail
      go_ret
      exact ⟨rfl, (Below.refl _ _).alloc (Nat.le_refl _) _⟩
    | true =>
    obtain ⟨htc1, htc0⟩ := nearB_true hn
    clear hn
    obtain ⟨tc, htc⟩ : ∃ tc, tc = cen (mred t) 8380417 := ⟨_, rfl⟩
    rw [← htc] at htc0 htc1
    obtain ⟨d, hd⟩ : ∃ d, (x + 8380417 - c) % 8380417 = d := ⟨_, rfl⟩
    obtain ⟨s, hs⟩ : ∃ s, (d + t) % 8380417 = s := ⟨_, rfl⟩
    have d0 : 0 ≤ d := by omega
    have d1 : d < 8380417 := by omega
    have s0 : 0 ≤ s := by omega
    have s1 : s < 8380417 := by omega
    have hd0 := mred_lo d
    have hd1 := mred_hi d
    have hs0 := mred_lo s
    have hs1 := mred_hi s
    have hrel : mred s = (mred d + tc) % 8380417 := by
      have hcq := cen_q _ (mred_lo t) (mred_hi t)
      rw [← htc] at hcq
      have h1 : mred s = (mred d + mred t) % 8380417 := by rw [← hs]; unfold mred; omega
      rw [h1, hcq]; split <;> omega
    clear htc
    have HD := Lib.hid hd; clear hd
    have HS := Lib.hid hs; clear hs
    have HR := Lib.hid (show ([d].all fun z => decide (z < 8380417)) = true from by simp [d1])
    by_cases he : decHi (mred d) 95232 = decHi (mred s) 95232
    · have hm : mkH (mred d) (mred s) 95232 = 0 := by unfold mkH; rw [if_pos he]
      have HM := Lib.hid hm; clear hm
      have HU := Lib.hid (fun w => useHint88 s false w s0 (by omega))
      simp only [Bool.false_eq_true, if_false] at HU
      have HT := Lib.hid (tells88_false (mred d) (mred s) tc hd0 hd1 hs0 hs1 htc0 htc1 hrel he)
      clear he hrel
      go_wp2_with (first | (go_at_call 30; refine (fieldSub _ _ _ x0 hx c0 hc).mono ?_; rintro e w' ⟨rfl, rfl⟩; rw [HD.out]) | (go_at_call 36; refine (decompose88 _ _ d0 (by omega)).mono ?_; rintro e w' ⟨rfl, rfl⟩) | (go_at_call 5; refine (lwReducedAt [d] _ _ _ (by simp) (by simp)).mono ?_; rintro e w' ⟨rfl, rfl⟩; rw [HR.out]) | (go_at_call 33; refine (fieldAdd _ _ _ d0 d1 t0 ht).mono ?_; rintro e w' ⟨rfl, rfl⟩; rw [HS.out]) | (go_at_call 38; refine (makeHint88 _ _ _ _ t0 ht x0 hx c0 hc).mono ?_; rintro e w' ⟨rfl, rfl⟩; rw [HD.out, HS.out, HM.out]) | (go_at_call 37; refine (HU.out _).mono ?_; rintro e w' ⟨rfl, rfl⟩; rw [HT.out]) | (go_at_call 39; refine (highBits88 _ _ (by omega) (by omega)).mono ?_; rintro e w' ⟨rfl, rfl⟩; first | rw [hi88_a] | rw [hi88_b]) | go_in)
      go_ret
      exact ⟨rfl, ((Below.refl _ _).alloc (Nat.le_refl _) _).alloc (by simp) _⟩
    · have hm : mkH (mred d) (mred s) 95232 = 1 := by unfold mkH; rw [if_neg he]
      have HM := Lib.hid hm; clear hm
      have HU := Lib.hid (fun w => useHint88 s true w s0 (by omega))
      simp only [if_true] at HU
      have HT := Lib.hid (tells88_true (mred d) (mred s) tc hd0 hd1 hs0 hs1 htc0 htc1 hrel he)
      clear he hrel
      go_wp2_with (first | (go_at_call 30; refine (fieldSub _ _ _ x0 hx c0 hc).mono ?_; rintro e w' ⟨rfl, rfl⟩; rw [HD.out]) | (go_at_call 36; refine (decompose88 _ _ d0 (by omega)).mono ?_; rintro e w' ⟨rfl, rfl⟩) | (go_at_call 5; refine (lwReducedAt [d] _ _ _ (by simp) (by simp)).mono ?_; rintro e w' ⟨rfl, rfl⟩; rw [HR.out]) | (go_at_call 33; refine (fieldAdd _ _ _ d0 d1 t0 ht).mono ?_; rintro e w' ⟨rfl, rfl⟩; rw [HS.out]) | (go_at_call 38; refine (makeHint88 _ _ _ _ t0 ht x0 hx c0 hc).mono ?_; rintro e w' ⟨rfl, rfl⟩; rw [HD.out, HS.out, HM.out]) | (go_at_call 37; refine (HU.out _).mono ?_; rintro e w' ⟨rfl, rfl⟩; rw [HT.out]) | (go_at_call 39; refine (highBits88 _ _ (by omega) (by omega)).mono ?_; rintro e w' ⟨rfl, rfl⟩; first | rw [hi88_a] | rw [hi88_b]) | go_in)
      go_ret
      exact ⟨rfl, ((Below.refl _ _).alloc (Nat.le_refl _) _).alloc (by simp) _⟩
  · rw [show ([t, x, c].all fun z => decide (z < 8380417)) = false from by simp; omega]
    go_wp2_with fail
    go_ret
    exact ⟨rfl, (Below.refl _ _).alloc (Nat.le_refl _) _⟩
end Go.Proofs.Ytojhecmdkpcceaa
