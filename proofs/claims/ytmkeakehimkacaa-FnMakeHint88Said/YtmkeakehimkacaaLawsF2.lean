/-
  The laws on rounding and hints of single numbers: each walk returns true.
-/
import Derived.Test.YtmkeakehimkacaaRound
import Derived.Test.YtmkeakehimkacaaReduced
namespace Go.Proofs.Ytmkeakehimkacaa
open Go.RowKit

theorem mred_sub (a b t : Int) : (mred a - mred b + mred t) % 8380417 = mred ((a + 8380417 - b + t) % 8380417) := by unfold mred; omega
theorem mred_sub' (a b t : Int) : ((mred a - mred b + mred t) % 8380417 + -mred t) % 8380417 = mred ((a + 8380417 - b) % 8380417) := by unfold mred; omega

theorem lwOne (b : Bool) (w : World) :
    Calls Try.prog 29 #[.bool b] w fun e w' => e = .returned (.int .u8 (if b then 1 else 0)) ∧ w = w' := by
  cases b with
  | false =>
    go_enter Try.func29, Try.ntmps29
    go_wp2
    go_ret
    exact ⟨rfl, rfl⟩
  | true =>
    go_enter Try.func29, Try.ntmps29
    go_wp2
    go_ret
    exact ⟨rfl, rfl⟩

theorem walkFnCenteredMod (a : Int) (w : World) (a0 : 0 ≤ a) (a1 : a < 4294967296) :
    Calls Try.prog 3 #[.int .u32 a] w fun e w' => e = .returned (.bool true) ∧ Below w.heap.size w w' := by
  have hm0 := mred_lo a
  have hm1 := mred_hi a
  obtain ⟨hc0, hc1⟩ := cen_bd (mred a) 8380417 (by omega)
  go_enter Try.func3, Try.ntmps3
  go_wp2_with fail
  refine (lwReducedNew [a] _ w (by simp)).mono ?_
  rintro e w' ⟨rfl, rfl⟩
  by_cases h : a < 8380417
  · rw [show ([a].all fun z => decide (z < 8380417)) = true from by simp [h]]
    go_wp2_with (first | (go_at_call 48; refine (centeredMod _ _ a0 a1).mono ?_; rintro e w' ⟨rfl, rfl⟩) | (go_at_call 18; refine (spPlain _ _ a0 a1).mono ?_; rintro e w' ⟨rfl, rfl⟩) | (go_at_call 17; refine (spCentred _ _ _ (by omega) (by omega) (by omega) (by omega)).mono ?_; rintro e w' ⟨rfl, rfl⟩) | go_in)
    go_ret
    exact ⟨rfl, (Below.refl _ _).alloc (Nat.le_refl _) _⟩
  · rw [show ([a].all fun z => decide (z < 8380417)) = false from by simp; omega]
    go_wp2_with fail
    go_ret
    exact ⟨rfl, (Below.refl _ _).alloc (Nat.le_refl _) _⟩

theorem walkFnInfinityNorm (a : Int) (w : World) (a0 : 0 ≤ a) (a1 : a < 4294967296) :
    Calls Try.prog 4 #[.int .u32 a] w fun e w' => e = .returned (.bool true) ∧ Below w.heap.size w w' := by
  have hm0 := mred_lo a
  have hm1 := mred_hi a
  obtain ⟨hc0, hc1⟩ := cen_bd (mred a) 8380417 (by omega)
  go_enter Try.func4, Try.ntmps4
  go_wp2_with fail
  refine (spPlain _ _ a0 a1).mono ?_
  rintro e w' ⟨rfl, rfl⟩
  go_wp2_with fail
  refine (spCentred _ _ _ (by omega) (by omega) (by omega) (by omega)).mono ?_
  rintro e w' ⟨rfl, rfl⟩
  go_wp2_with fail
  refine (lwReducedNew [a] _ w (by simp)).mono ?_
  rintro e w' ⟨rfl, rfl⟩
  by_cases h : a < 8380417
  · rw [show ([a].all fun z => decide (z < 8380417)) = true from by simp [h]]
    by_cases hs : 0 ≤ cen (mred a) 8380417
    · have hx : max (cen (mred a) 8380417) (-cen (mred a) 8380417) = cen (mred a) 8380417 := by omega
      go_wp2_with (first | (go_at_call 49; refine (infNorm _ _ a0 a1).mono ?_; rintro e w' ⟨rfl, rfl⟩) | go_in)
      go_ret
      exact ⟨rfl, (Below.refl _ _).alloc (Nat.le_refl _) _⟩
    · have hx : max (cen (mred a) 8380417) (-cen (mred a) 8380417) = -cen (mred a) 8380417 := by omega
      go_wp2_with (first | (go_at_call 49; refine (infNorm _ _ a0 a1).mono ?_; rintro e w' ⟨rfl, rfl⟩) | go_in)
      go_ret
      exact ⟨rfl, (Below.refl _ _).alloc (Nat.le_refl _) _⟩
  · rw [show ([a].all fun z => decide (z < 8380417)) = false from by simp; omega]
    go_wp2_with fail
    go_ret
    exact ⟨rfl, (Below.refl _ _).alloc (Nat.le_refl _) _⟩

set_option maxHeartbeats 1000000 in
theorem walkFnPower2Round (a : Int) (w : World) (a0 : 0 ≤ a) (a1 : a < 4294967296) :
    Calls Try.prog 5 #[.int .u32 a] w fun e w' => e = .returned (.bool true) ∧ Below w.heap.size w w' := by
  have hm0 := mred_lo a
  have hm1 := mred_hi a
  obtain ⟨hc0, hc1⟩ := cen_bd (mred a) 8192 (by omega)
  have hp : 0 ≤ (mred a - cen (mred a) 8192) / 8192 ∧ (mred a - cen (mred a) 8192) / 8192 < 1024 := by rw [p2_hi]; omega
  obtain ⟨hp0, hp1⟩ := hp
  go_enter Try.func5, Try.ntmps5
  go_wp2_with fail
  refine (lwReducedNew [a] _ w (by simp)).mono ?_
  rintro e w' ⟨rfl, rfl⟩
  by_cases h : a < 8380417
  · rw [show ([a].all fun z => decide (z < 8380417)) = true from by simp [h]]
    go_wp2_with (first | (go_at_call 50; refine (power2Round _ _ a0 h).mono ?_; rintro e w' ⟨rfl, rfl⟩) | (go_at_call 18; refine (spPlain _ _ a0 a1).mono ?_; rintro e w' ⟨rfl, rfl⟩) | (go_at_call 21; refine (spPower2Round _ _ hm0 (by omega)).mono ?_; rintro e w' ⟨rfl, rfl⟩) | (go_at_call 22; refine (spMont _ _ (by omega) (by omega)).mono ?_; rintro e w' ⟨rfl, rfl⟩) | go_in)
    go_ret
    exact ⟨rfl, (Below.refl _ _).alloc (Nat.le_refl _) _⟩
  · rw [show ([a].all fun z => decide (z < 8380417)) = false from by simp; omega]
    go_wp2_with fail
    go_ret
    exact ⟨rfl, (Below.refl _ _).alloc (Nat.le_refl _) _⟩

theorem p2_back (x l : Int) (hl : l = cen x 8192 * 4193792 % 8380417) : cen (mred l) 8380417 = cen x 8192 := by
  subst hl
  rw [p2_cen]
  have : mred ((x - (x + 4095) / 8192 * 8192) * 4193792 % 8380417) = (x - (x + 4095) / 8192 * 8192) % 8380417 := by unfold mred; omega
  rw [this]
  unfold cen
  split <;> omega
theorem mred_mont (a : Int) (h0 : 0 ≤ a) (h1 : a < 8380417) : mred a * 4193792 % 8380417 = a := by unfold mred; omega

set_option maxHeartbeats 1000000 in
theorem walkFnPower2Back (a : Int) (w : World) (a0 : 0 ≤ a) (a1 : a < 4294967296) :
    Calls Try.prog 6 #[.int .u32 a] w fun e w' => e = .returned (.bool true) ∧ Below w.heap.size w w' := by
  have hm0 := mred_lo a
  have hm1 := mred_hi a
  by_cases h : a < 8380417
  · obtain ⟨l, hl⟩ : ∃ l, l = cen (mred a) 8192 * 4193792 % 8380417 := ⟨_, rfl⟩
    have hb := p2_back _ _ hl
    have hc := p2_cen (mred a)
    have hq := p2_hi (mred a)
    have hl0 : 0 ≤ l := by omega
    have hl1 : l < 8380417 := by omega
    have HL := Lib.hid hl.symm; clear hl
    generalize hcc : cen (mred a) 8192 = c at *
    have hmm := mred_mont a a0 h
    have hfin : ((mred a - c) / 8192 * 8192 + c) * 4193792 % 8380417 = a := by
      have e : (mred a - c) / 8192 * 8192 + c = mred a := by omega
      rw [e]; exact hmm
    have hp0 : 0 ≤ (mred a - c) / 8192 := by omega
    have hp1 : (mred a - c) / 8192 < 1024 := by omega
    have hc0 : -4096 < c := by omega
    have hc1 : c ≤ 4096 := by omega
    have HB := Lib.hid hb; clear hb
    have HCC := Lib.hid hcc; clear hcc
    have HF := Lib.hid hfin; clear hfin
    clear hc hq hmm
    go_enter Try.func6, Try.ntmps6
    go_wp2_with fail
    refine (lwReducedNew [a] _ w (by simp)).mono ?_
    rintro e w' ⟨rfl, rfl⟩
    rw [show ([a].all fun z => decide (z < 8380417)) = true from by simp [h]]
    go_wp2_with (first | (go_at_call 50; refine (power2Round _ _ a0 h).mono ?_; rintro e w' ⟨rfl, rfl⟩; rw [HCC.out, HL.out]) | (go_at_call 48; refine (centeredMod _ _ hl0 (by omega)).mono ?_; rintro e w' ⟨rfl, rfl⟩; rw [HB.out]) | (go_at_call 22; refine (spMont _ _ (by omega) (by omega)).mono ?_; rintro e w' ⟨rfl, rfl⟩; rw [HF.out]) | go_in)
    go_ret
    exact ⟨rfl, (Below.refl _ _).alloc (Nat.le_refl _) _⟩
  · go_enter Try.func6, Try.ntmps6
    go_wp2_with fail
    refine (lwReducedNew [a] _ w (by simp)).mono ?_
    rintro e w' ⟨rfl, rfl⟩
    rw [show ([a].all fun z => decide (z < 8380417)) = false from by simp; omega]
    go_wp2_with fail
    go_ret
    exact ⟨rfl, (Below.refl _ _).alloc (Nat.le_refl _) _⟩

set_option maxHeartbeats 1000000 in
theorem walkFnDecompose32 (a : Int) (w : World) (a0 : 0 ≤ a) (a1 : a < 4294967296) :
    Calls Try.prog 7 #[.int .u32 a] w fun e w' => e = .returned (.bool true) ∧ Below w.heap.size w w' := by
  have hm0 := mred_lo a
  have hm1 := mred_hi a
  obtain ⟨hd0, hd1⟩ := decHi32_bd _ hm0 hm1
  obtain ⟨hl0, hl1⟩ := decLo32_bd _ hm0 hm1
  have hn := dec32_nn (mred a) hm0
  go_enter Try.func7, Try.ntmps7
  go_wp2_with fail
  refine (lwReducedNew [a] _ w (by simp)).mono ?_
  rintro e w' ⟨rfl, rfl⟩
  by_cases h : a < 8380417
  · rw [show ([a].all fun z => decide (z < 8380417)) = true from by simp [h]]
    go_wp2_with (first | (go_at_call 51; refine (decompose32 _ _ a0 a1).mono ?_; rintro e w' ⟨rfl, rfl⟩) | (go_at_call 18; refine (spPlain _ _ a0 a1).mono ?_; rintro e w' ⟨rfl, rfl⟩) | (go_at_call 24; refine (spDecompose _ _ _ hm0 (by omega) (by omega) (by omega) hn).mono ?_; rintro e w' ⟨rfl, rfl⟩) | go_in)
    go_ret
    exact ⟨rfl, (Below.refl _ _).alloc (Nat.le_refl _) _⟩
  · rw [show ([a].all fun z => decide (z < 8380417)) = false from by simp; omega]
    go_wp2_with fail
    go_ret
    exact ⟨rfl, (Below.refl _ _).alloc (Nat.le_refl _) _⟩

set_option maxHeartbeats 1000000 in
theorem walkFnHighBits32 (a : Int) (w : World) (a0 : 0 ≤ a) (a1 : a < 4294967296) :
    Calls Try.prog 9 #[.int .u32 a] w fun e w' => e = .returned (.bool true) ∧ Below w.heap.size w w' := by
  have hn := dec32_nn a a0
  go_enter Try.func9, Try.ntmps9
  go_wp2_with fail
  refine (spDecompose _ _ _ a0 a1 (by omega) (by omega) hn).mono ?_
  rintro e w' ⟨rfl, rfl⟩
  go_wp2_with fail
  refine (lwReducedNew [a] _ w (by simp)).mono ?_
  rintro e w' ⟨rfl, rfl⟩
  by_cases h : a < 8380417
  · obtain ⟨hd0, hd1⟩ := decHi32_bd _ a0 h
    rw [show ([a].all fun z => decide (z < 8380417)) = true from by simp [h]]
    go_wp2_with (first | (go_at_call 53; refine (highBits32 _ _ a0 h).mono ?_; rintro e w' ⟨rfl, rfl⟩) | go_in)
    go_ret
    exact ⟨rfl, (Below.refl _ _).alloc (Nat.le_refl _) _⟩
  · rw [show ([a].all fun z => decide (z < 8380417)) = false from by simp; omega]
    go_wp2_with fail
    go_ret
    exact ⟨rfl, (Below.refl _ _).alloc (Nat.le_refl _) _⟩

theorem useH32_bd (h : Bool) (r : Int) (h0 : 0 ≤ r) (h1 : r < 8380417) : 0 ≤ useH h r 261888 16 ∧ useH h r 261888 16 < 16 := by
  obtain ⟨hd0, hd1⟩ := decHi32_bd _ h0 h1
  unfold useH
  split
  · split <;> omega
  · omega

set_option maxHeartbeats 1000000 in
theorem walkFnUseHint32 (a : Int) (b : Bool) (w : World) (a0 : 0 ≤ a) (a1 : a < 4294967296) :
    Calls Try.prog 11 #[.int .u32 a, .bool b] w fun e w' => e = .returned (.bool true) ∧ Below w.heap.size w w' := by
  have hm0 := mred_lo a
  have hm1 := mred_hi a
  obtain ⟨hu0, hu1⟩ := useH32_bd b _ hm0 hm1
  go_enter Try.func11, Try.ntmps11
  go_wp2_with fail
  refine (lwReducedNew [a] _ w (by simp)).mono ?_
  rintro e w' ⟨rfl, rfl⟩
  by_cases h : a < 8380417
  · rw [show ([a].all fun z => decide (z < 8380417)) = true from by simp [h]]
    go_wp2_with fail
    refine (lwOne _ _).mono ?_
    rintro e w' ⟨rfl, rfl⟩
    obtain ⟨i, hi⟩ : ∃ i : Int, (if b = true then 1 else 0) = i := ⟨_, rfl⟩
    rw [hi]
    have huc := fun w => useHint32 a b w a0 a1
    rw [hi] at huc
    have HI := Lib.hid hi; clear hi
    have HU := Lib.hid huc; clear huc
    go_wp2_with (first | (go_at_call 55; refine (HU.out _).mono ?_; rintro e w' ⟨rfl, rfl⟩) | (go_at_call 18; refine (spPlain _ _ a0 a1).mono ?_; rintro e w' ⟨rfl, rfl⟩) | (go_at_call 30; refine (spUseHint32 _ _ _ hm0 hm1).mono ?_; rintro e w' ⟨rfl, rfl⟩) | go_in)
    go_ret
    exact ⟨rfl, (Below.refl _ _).alloc (Nat.le_refl _) _⟩
  · rw [show ([a].all fun z => decide (z < 8380417)) = false from by simp; omega]
    go_wp2_with fail
    go_ret
    exact ⟨rfl, (Below.refl _ _).alloc (Nat.le_refl _) _⟩

set_option maxHeartbeats 1000000 in
theorem walkFnMakeHint32 (t x c : Int) (w : World) (t0 : 0 ≤ t) (t1 : t < 4294967296) (x0 : 0 ≤ x) (x1 : x < 4294967296) (c0 : 0 ≤ c) (c1 : c < 4294967296) :
    Calls Try.prog 13 #[.int .u32 t, .int .u32 x, .int .u32 c] w fun e w' => e = .returned (.bool true) ∧ Below w.heap.size w w' := by
  have ht0 := mred_lo t
  have ht1 := mred_hi t
  have hx0 := mred_lo x
  have hx1 := mred_hi x
  have hc0 := mred_lo c
  have hc1 := mred_hi c
  go_enter Try.func13, Try.ntmps13
  go_wp2_with fail
  refine (spPlain _ _ t0 t1).mono ?_
  rintro e w' ⟨rfl, rfl⟩
  go_wp2_with fail
  refine (spPlain _ _ x0 x1).mono ?_
  rintro e w' ⟨rfl, rfl⟩
  go_wp2_with fail
  refine (spPlain _ _ c0 c1).mono ?_
  rintro e w' ⟨rfl, rfl⟩
  go_wp2_with fail
  refine (lwReducedNew [t, x, c] _ w (by simp)).mono ?_
  rintro e w' ⟨rfl, rfl⟩
  by_cases h : t < 8380417 ∧ x < 8380417 ∧ c < 8380417
  · obtain ⟨ht, hx, hc⟩ := h
    rw [show ([t, x, c].all fun z => decide (z < 8380417)) = true from by simp [ht, hx, hc]]
    by_cases he : decHi (mred ((x + 8380417 - c + t) % 8380417)) 261888 = decHi (mred ((x + 8380417 - c) % 8380417)) 261888
    · have hk : mkH (mred ((x + 8380417 - c) % 8380417)) (mred ((x + 8380417 - c + t) % 8380417)) 261888 = 0 := by unfold mkH; rw [if_pos he.symm]
      have hq : (decHi (mred ((x + 8380417 - c + t) % 8380417)) 261888 != decHi (mred ((x + 8380417 - c) % 8380417)) 261888) = false := by simp [he]
      clear he
      go_wp2_with (first | (go_at_call 57; refine (makeHint32 _ _ _ _ t0 ht x0 hx c0 hc).mono ?_; rintro e w' ⟨rfl, rfl⟩) | (go_at_call 34; refine (spMod _ _ (by omega) (by omega)).mono ?_; rintro e w' ⟨rfl, rfl⟩) | (go_at_call 33; refine (spMakeHint32 _ _ _ (by omega) (by omega) (by omega) (by omega)).mono ?_; rintro e w' ⟨rfl, rfl⟩; rw [mred_sub', mred_sub]) | (go_at_call 29; refine (lwOne _ _).mono ?_; rintro e w' ⟨rfl, rfl⟩) | go_in)
      go_ret
      exact ⟨rfl, (Below.refl _ _).alloc (Nat.le_refl _) _⟩
    · have hk : mkH (mred ((x + 8380417 - c) % 8380417)) (mred ((x + 8380417 - c + t) % 8380417)) 261888 = 1 := by unfold mkH; rw [if_neg fun e => he e.symm]
      have hq : (decHi (mred ((x + 8380417 - c + t) % 8380417)) 261888 != decHi (mred ((x + 8380417 - c) % 8380417)) 261888) = true := by simp [he]
      clear he
      go_wp2_with (first | (go_at_call 57; refine (makeHint32 _ _ _ _ t0 ht x0 hx c0 hc).mono ?_; rintro e w' ⟨rfl, rfl⟩) | (go_at_call 34; refine (spMod _ _ (by omega) (by omega)).mono ?_; rintro e w' ⟨rfl, rfl⟩) | (go_at_call 33; refine (spMakeHint32 _ _ _ (by omega) (by omega) (by omega) (by omega)).mono ?_; rintro e w' ⟨rfl, rfl⟩; rw [mred_sub', mred_sub]) | (go_at_call 29; refine (lwOne _ _).mono ?_; rintro e w' ⟨rfl, rfl⟩) | go_in)
      go_ret
      exact ⟨rfl, (Below.refl _ _).alloc (Nat.le_refl _) _⟩
  · rw [show ([t, x, c].all fun z => decide (z < 8380417)) = false from by simp; omega]
    go_wp2_with fail
    go_ret
    exact ⟨rfl, (Below.refl _ _).alloc (Nat.le_refl _) _⟩

set_option maxHeartbeats 1000000 in
theorem walkFnDecompose88 (a : Int) (w : World) (a0 : 0 ≤ a) (a1 : a < 4294967296) :
    Calls Try.prog 8 #[.int .u32 a] w fun e w' => e = .returned (.bool true) ∧ Below w.heap.size w w' := by
  have hm0 := mred_lo a
  have hm1 := mred_hi a
  obtain ⟨hd0, hd1⟩ := decHi88_bd _ hm0 hm1
  obtain ⟨hl0, hl1⟩ := decLo88_bd _ hm0 hm1
  have hn := dec88_nn (mred a) hm0
  go_enter Try.func8, Try.ntmps8
  go_wp2_with fail
  refine (lwReducedNew [a] _ w (by simp)).mono ?_
  rintro e w' ⟨rfl, rfl⟩
  by_cases h : a < 8380417
  · rw [show ([a].all fun z => decide (z < 8380417)) = true from by simp [h]]
    go_wp2_with (first | (go_at_call 52; refine (decompose88 _ _ a0 a1).mono ?_; rintro e w' ⟨rfl, rfl⟩) | (go_at_call 18; refine (spPlain _ _ a0 a1).mono ?_; rintro e w' ⟨rfl, rfl⟩) | (go_at_call 24; refine (spDecompose _ _ _ hm0 (by omega) (by omega) (by omega) hn).mono ?_; rintro e w' ⟨rfl, rfl⟩) | go_in)
    go_ret
    exact ⟨rfl, (Below.refl _ _).alloc (Nat.le_refl _) _⟩
  · rw [show ([a].all fun z => decide (z < 8380417)) = false from by simp; omega]
    go_wp2_with fail
    go_ret
    exact ⟨rfl, (Below.refl _ _).alloc (Nat.le_refl _) _⟩

set_option maxHeartbeats 1000000 in
theorem walkFnHighBits88 (a : Int) (w : World) (a0 : 0 ≤ a) (a1 : a < 4294967296) :
    Calls Try.prog 10 #[.int .u32 a] w fun e w' => e = .returned (.bool true) ∧ Below w.heap.size w w' := by
  have hn := dec88_nn a a0
  go_enter Try.func10, Try.ntmps10
  go_wp2_with fail
  refine (spDecompose _ _ _ a0 a1 (by omega) (by omega) hn).mono ?_
  rintro e w' ⟨rfl, rfl⟩
  go_wp2_with fail
  refine (lwReducedNew [a] _ w (by simp)).mono ?_
  rintro e w' ⟨rfl, rfl⟩
  by_cases h : a < 8380417
  · obtain ⟨hd0, hd1⟩ := decHi88_bd _ a0 h
    rw [show ([a].all fun z => decide (z < 8380417)) = true from by simp [h]]
    go_wp2_with (first | (go_at_call 54; refine (highBits88 _ _ a0 h).mono ?_; rintro e w' ⟨rfl, rfl⟩) | go_in)
    go_ret
    exact ⟨rfl, (Below.refl _ _).alloc (Nat.le_refl _) _⟩
  · rw [show ([a].all fun z => decide (z < 8380417)) = false from by simp; omega]
    go_wp2_with fail
    go_ret
    exact ⟨rfl, (Below.refl _ _).alloc (Nat.le_refl _) _⟩

theorem useH88_bd (h : Bool) (r : Int) (h0 : 0 ≤ r) (h1 : r < 8380417) : 0 ≤ useH h r 95232 44 ∧ useH h r 95232 44 < 44 := by
  obtain ⟨hd0, hd1⟩ := decHi88_bd _ h0 h1
  unfold useH
  split
  · split <;> omega
  · omega

set_option maxHeartbeats 1000000 in
theorem walkFnUseHint88 (a : Int) (b : Bool) (w : World) (a0 : 0 ≤ a) (a1 : a < 4294967296) :
    Calls Try.prog 12 #[.int .u32 a, .bool b] w fun e w' => e = .returned (.bool true) ∧ Below w.heap.size w w' := by
  have hm0 := mred_lo a
  have hm1 := mred_hi a
  obtain ⟨hu0, hu1⟩ := useH88_bd b _ hm0 hm1
  go_enter Try.func12, Try.ntmps12
  go_wp2_with fail
  refine (lwReducedNew [a] _ w (by simp)).mono ?_
  rintro e w' ⟨rfl, rfl⟩
  by_cases h : a < 8380417
  · rw [show ([a].all fun z => decide (z < 8380417)) = true from by simp [h]]
    go_wp2_with fail
    refine (lwOne _ _).mono ?_
    rintro e w' ⟨rfl, rfl⟩
    obtain ⟨i, hi⟩ : ∃ i : Int, (if b = true then 1 else 0) = i := ⟨_, rfl⟩
    rw [hi]
    have huc := fun w => useHint88 a b w a0 a1
    rw [hi] at huc
    have HI := Lib.hid hi; clear hi
    have HU := Lib.hid huc; clear huc
    go_wp2_with (first | (go_at_call 56; refine (HU.out _).mono ?_; rintro e w' ⟨rfl, rfl⟩) | (go_at_call 18; refine (spPlain _ _ a0 a1).mono ?_; rintro e w' ⟨rfl, rfl⟩) | (go_at_call 30; refine (spUseHint88 _ _ _ hm0 hm1).mono ?_; rintro e w' ⟨rfl, rfl⟩) | go_in)
    go_ret
    exact ⟨rfl, (Below.refl _ _).alloc (Nat.le_refl _) _⟩
  · rw [show ([a].all fun z => decide (z < 8380417)) = false from by simp; omega]
    go_wp2_with fail
    go_ret
    exact ⟨rfl, (Below.refl _ _).alloc (Nat.le_refl _) _⟩

set_option maxHeartbeats 1000000 in
theorem walkFnMakeHint88 (t x c : Int) (w : World) (t0 : 0 ≤ t) (t1 : t < 4294967296) (x0 : 0 ≤ x) (x1 : x < 4294967296) (c0 : 0 ≤ c) (c1 : c < 4294967296) :
    Calls Try.prog 14 #[.int .u32 t, .int .u32 x, .int .u32 c] w fun e w' => e = .returned (.bool true) ∧ Below w.heap.size w w' := by
  have ht0 := mred_lo t
  have ht1 := mred_hi t
  have hx0 := mred_lo x
  have hx1 := mred_hi x
  have hc0 := mred_lo c
  have hc1 := mred_hi c
  go_enter Try.func14, Try.ntmps14
  go_wp2_with fail
  refine (spPlain _ _ t0 t1).mono ?_
  rintro e w' ⟨rfl, rfl⟩
  go_wp2_with fail
  refine (spPlain _ _ x0 x1).mono ?_
  rintro e w' ⟨rfl, rfl⟩
  go_wp2_with fail
  refine (spPlain _ _ c0 c1).mono ?_
  rintro e w' ⟨rfl, rfl⟩
  go_wp2_with fail
  refine (lwReducedNew [t, x, c] _ w (by simp)).mono ?_
  rintro e w' ⟨rfl, rfl⟩
  by_cases h : t < 8380417 ∧ x < 8380417 ∧ c < 8380417
  · obtain ⟨ht, hx, hc⟩ := h
    rw [show ([t, x, c].all fun z => decide (z < 8380417)) = true from by simp [ht, hx, hc]]
    by_cases he : decHi (mred ((x + 8380417 - c + t) % 8380417)) 95232 = decHi (mred ((x + 8380417 - c) % 8380417)) 95232
    · have hk : mkH (mred ((x + 8380417 - c) % 8380417)) (mred ((x + 8380417 - c + t) % 8380417)) 95232 = 0 := by unfold mkH; rw [if_pos he.symm]
      have hq : (decHi (mred ((x + 8380417 - c + t) % 8380417)) 95232 != decHi (mred ((x + 8380417 - c) % 8380417)) 95232) = false := by simp [he]
      clear he
      go_wp2_with (first | (go_at_call 58; refine (makeHint88 _ _ _ _ t0 ht x0 hx c0 hc).mono ?_; rintro e w' ⟨rfl, rfl⟩) | (go_at_call 34; refine (spMod _ _ (by omega) (by omega)).mono ?_; rintro e w' ⟨rfl, rfl⟩) | (go_at_call 33; refine (spMakeHint88 _ _ _ (by omega) (by omega) (by omega) (by omega)).mono ?_; rintro e w' ⟨rfl, rfl⟩; rw [mred_sub', mred_sub]) | (go_at_call 29; refine (lwOne _ _).mono ?_; rintro e w' ⟨rfl, rfl⟩) | go_in)
      go_ret
      exact ⟨rfl, (Below.refl _ _).alloc (Nat.le_refl _) _⟩
    · have hk : mkH (mred ((x + 8380417 - c) % 8380417)) (mred ((x + 8380417 - c + t) % 8380417)) 95232 = 1 := by unfold mkH; rw [if_neg fun e => he e.symm]
      have hq : (decHi (mred ((x + 8380417 - c + t) % 8380417)) 95232 != decHi (mred ((x + 8380417 - c) % 8380417)) 95232) = true := by simp [he]
      clear he
      go_wp2_with (first | (go_at_call 58; refine (makeHint88 _ _ _ _ t0 ht x0 hx c0 hc).mono ?_; rintro e w' ⟨rfl, rfl⟩) | (go_at_call 34; refine (spMod _ _ (by omega) (by omega)).mono ?_; rintro e w' ⟨rfl, rfl⟩) | (go_at_call 33; refine (spMakeHint88 _ _ _ (by omega) (by omega) (by omega) (by omega)).mono ?_; rintro e w' ⟨rfl, rfl⟩; rw [mred_sub', mred_sub]) | (go_at_call 29; refine (lwOne _ _).mono ?_; rintro e w' ⟨rfl, rfl⟩) | go_in)
      go_ret
      exact ⟨rfl, (Below.refl _ _).alloc (Nat.le_refl _) _⟩
  · rw [show ([t, x, c].all fun z => decide (z < 8380417)) = false from by simp; omega]
    go_wp2_with fail
    go_ret
    exact ⟨rfl, (Below.refl _ _).alloc (Nat.le_refl _) _⟩
end Go.Proofs.Ytmkeakehimkacaa
