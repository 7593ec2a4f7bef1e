/-
  Unpacking by a number of bits that is told: the walk.
-/
import Derived.Test.YtejolgicllogjaaSlowQ
namespace Go.Proofs.Ytejolgicllogjaa
open Go.RowKit

def okB (b : Nat → Int) (D : Nat) (N : Int) : Bool := (List.range 256).all fun i => decide (ubits b (32 * D) D i ≤ N)
theorem okB_false {b : Nat → Int} {D : Nat} {N : Int} (i : Nat) (hi : i < 256) (h : N < ubits b (32 * D) D i) : okB b D N = false := by
  unfold okB
  rw [List.all_eq_false]
  exact ⟨i, List.mem_range.2 hi, by simp; omega⟩
theorem okB_true {b : Nat → Int} {D : Nat} {N : Int} (h : ∀ i, i < 256 → ubits b (32 * D) D i ≤ N) : okB b D N = true := by
  unfold okB
  rw [List.all_eq_true]
  intro i hi
  simpa using h i (List.mem_range.1 hi)
theorem okB_all {b : Nat → Int} {D : Nat} {N : Int} (h : okB b D N = true) (i : Nat) (hi : i < 256) : ubits b (32 * D) D i ≤ N := by
  unfold okB at h
  rw [List.all_eq_true] at h
  simpa using h i (List.mem_range.2 hi)
def uvS (t : Int) (D : Nat) (b : Nat → Int) (i : Nat) : Int := (t - ubits b (32 * D) D i) * 4193792 % 8380417
def UnpPost (w : World) (ok : Bool) (val : Nat → Int) (e : Ending) (w' : World) : Prop :=
  Below w.heap.size w w' ∧ ((ok = true ∧ e = .returned (.tuple #[.agg (arr .u32 256 val), .nilIface])) ∨ (ok = false ∧ ∃ t v, e = .returned (.tuple #[.agg (arr .u32 256 fun _ => 0), .iface t v])))

set_option maxRecDepth 100000 in
set_option maxHeartbeats 1000000 in
theorem unpackSlow (g c D : Nat) (a t : Int) (b : Nat → Int) (w : World) (a0 : 0 ≤ a) (a1 : a ≤ 8191) (t0 : 1 ≤ t) (t1 : t ≤ 8191) (hD : D = blen 62 (a + t).toNat) (hD0 : 1 ≤ D) (hD1 : D ≤ 14) (hc : 32 * D ≤ c) (hcm : c ≤ maxLen)
    (hr : Rd .u8 w ⟨g, 0, none⟩ (32 * D) b) (hb : ∀ i, i < 32 * D → 0 ≤ b i ∧ b i < 256) :
    Calls Try.prog 46 #[.slice (some ⟨g, 0, none⟩) (32 * D) c, .int .i64 a, .int .i64 t] w fun e w' => UnpPost w (okB b D (a + t)) (uvS t D b) e w' := by
  have HR := Lib.hid hr; clear hr
  have HB := Lib.hid hb; clear hb
  have HD := Lib.hid hD; clear hD
  go_enter Try.func46, Try.ntmps46
  go_wp2_with fail
  refine (bitsLen (a + t) _ (by omega) (by omega)).mono ?_
  rintro e w' ⟨rfl, rfl⟩
  rw [← HD.out]
  have hdiv : (256 * (D : Int)) / 8 = ((32 * D : Nat) : Int) := by omega
  have hne : ((((32 * D : Nat) : Int)) != ((32 * D : Nat) : Int)) = false := by simp
  go_wp2_with fail
  have hd16 : decide ((16 : Int) < (D : Int)) = false := by rw [decide_eq_false_iff_not]; omega
  try simp only [hd16]
  clear hd16 hdiv hne
  have hpD : (2 : Int) ^ D ≤ 16384 ∧ 1 ≤ (2 : Int) ^ D := by
    have h1 := pow_mono2 D 14 hD1
    have h2 := pow_pos2 D
    have h3 : (2 : Int) ^ 14 = 16384 := by decide
    omega
  have hpN : ((2 ^ D - 1 : Nat) : Int) = 2 ^ D - 1 := by
    have : 1 ≤ 2 ^ D := Nat.one_le_two_pow
    rw [Int.natCast_sub this, Int.natCast_pow]
    rfl
  obtain ⟨M, hM⟩ : ∃ M : Int, M = ((2 ^ D % 4294967296 - 1) % 4294967296 : Int) := ⟨_, rfl⟩
  rw [← hM]
  have hM2 : M = ((2 ^ D - 1 : Nat) : Int) := by rw [hM, hpN]; omega
  have hlt2 : 2 ^ D - 1 < 4294967296 := by omega
  have HM := Lib.hid hM2; have HL2 := Lib.hid hlt2; clear hM hM2 hpN hlt2 hpD
  go_loopw [44, 12, 13, 14] (fun s44 ac ab vi ws => ∃ (i A V : Nat) (acc : Int), i ≤ 256 ∧ s44 = .int .i64 (i : Int) ∧ ac = .int .u32 acc ∧ ab = .int .u64 (A : Int) ∧ vi = .int .i64 (V : Int) ∧ Hid (A + D * i = 8 * V) ∧ A < 8 ∧ V ≤ 32 * D ∧ Hid (acc = pacc (dn 8 b (32 * D)) (8 * V) (D * i)) ∧ 0 ≤ acc ∧ acc < 256 ∧ Hid (∀ k, k < i → ubits b (32 * D) D k ≤ a + t) ∧ Below w.heap.size w ws ∧ Blk ws (w.heap.size + 1) .u32 256 (fun p => if p < i then uvS t D b p else 0) 50 ∧ Blk ws w.heap.size .u32 256 (fun _ => 0) 50) (fun s44 _ _ _ _ => 256 - (intOf s44).toNat)
  case atStart => exact ⟨0, 0, 0, 0, by omega, rfl, rfl, rfl, rfl, Lib.hid (by omega), by omega, by omega, Lib.hid (by rw [Nat.mul_zero, Nat.mul_zero, pacc_start]), by omega, by omega, Lib.hid (fun k hk => by omega), ((Below.refl _ _).alloc (Nat.le_refl _) _).alloc (by first | omega | (simp; done) | (simp; omega)) _, (Blk.new _ _ _ _ _ (by first | omega | (simp; done) | (simp; omega))).congr (fun j _ => by rw [if_neg (by omega)]), (Blk.new _ _ _ _ _ rfl).alloc _⟩
  case round =>
    obtain ⟨i, A, V, acc, hi, rfl, rfl, rfl, rfl, HJ, hA, hV, HA, ha0', ha1', HOK, hbe, h1, h0⟩ := hrel
    by_cases hlt : i < 256
    · go_wp2_with fail
      go_loopw [12, 13, 14] (fun ac ab vi ws => ∃ (A V : Nat) (acc : Int), ac = .int .u32 acc ∧ ab = .int .u64 (A : Int) ∧ vi = .int .i64 (V : Int) ∧ Hid (A + D * i = 8 * V) ∧ A < D + 8 ∧ V ≤ 32 * D ∧ Hid (acc = pacc (dn 8 b (32 * D)) (8 * V) (D * i)) ∧ 0 ≤ acc ∧ acc < 4194304 ∧ Below w.heap.size w ws ∧ Blk ws (w.heap.size + 1) .u32 256 (fun p => if p < i then uvS t D b p else 0) 50 ∧ Blk ws w.heap.size .u32 256 (fun _ => 0) 50) (fun _ ab _ _ => 22 - (intOf ab).toNat)
      case atStart => exact ⟨A, V, acc, rfl, rfl, rfl, HJ, by omega, hV, HA, ha0', by omega, hbe, h1, h0⟩
      case round =>
        clear hbe h1 h0 HA HJ hV hA ha0' ha1'
        obtain ⟨A, V, acc, rfl, rfl, rfl, HJ, hA, hV, HA, ha0', ha1', hbe, h1, h0⟩ := hrel
        have hDle : D * (i + 1) ≤ D * 256 := Nat.mul_le_mul_left D (by omega)
        have hDi : D * (i + 1) = D * i + D := Nat.mul_succ _ _
        have hDle0 : D * i ≤ D * 256 := Nat.mul_le_mul_left D (by omega)
        have hJ := HJ.out
        by_cases hAD : A < D
        · have hVl : V < 32 * D := by omega
          have hpA : 1 ≤ (2 : Int) ^ A ∧ (2 : Int) ^ A ≤ 8192 := by
            have h1 := pow_mono2 A 13 (by omega)
            have h2 := pow_pos2 A
            have h3 : (2 : Int) ^ 13 = 8192 := by decide
            omega
          obtain ⟨hb0, hb1⟩ := HB.out V hVl
          have hpb := pacc_bd (dn 8 b (32 * D)) (8 * V) (D * i) (by omega)
          rw [← HA.out, show 8 * V - D * i = A from by omega] at hpb
          obtain ⟨hm0, hm1⟩ := prod_lt (b V) (2 ^ A) 255 8192 hb0 (by omega) (by omega) hpA.2
          have hor : bits .or .u32 acc (b V * 2 ^ A % 4294967296) = pacc (dn 8 b (32 * D)) (8 * (V + 1)) (D * i) ∧ bits .or .u32 acc (b V * 2 ^ A % 4294967296) = acc + b V * 2 ^ A := by
            have e1 : bits .or .u32 acc (b V * 2 ^ A % 4294967296) = acc + b V * 2 ^ A := by
              rw [Int.emod_eq_of_lt hm0 (by omega), u32_or A acc _ ha0' hpb.2 hb0 (by omega)]
            refine ⟨?_, e1⟩
            rw [e1, HA.out, show 8 * (V + 1) = 8 * V + 8 from by omega, pacc_in (dn 8 b (32 * D)) (8 * V) (D * i) 8 (by omega), dn_div 8 b (32 * D) HB.out V hVl, show 8 * V - D * i = A from by omega]
          have hlt22 : acc + b V * 2 ^ A < 4194304 := by
            have h1 := hpb.2
            omega
          have HOR := Lib.hid hor; have HLT := Lib.hid (show 0 ≤ acc + b V * 2 ^ A ∧ acc + b V * 2 ^ A < 4194304 from ⟨by omega, hlt22⟩)
          clear hor hlt22 hm0 hm1 hpb hpA
          have hcv := (HR.out.below hbe).row V hVl
          have hVi : decide ((V : Int) < 32 * (D : Int)) = true := by rw [decide_eq_true_eq]; omega
          go_wp2_with fail
          go_roundw
          case rel => exact ⟨A + 8, V + 1, bits .or .u32 acc (b V * 2 ^ A % 4294967296), rfl, by go_num, by go_num, Lib.hid (by omega), by omega, by omega, Lib.hid HOR.out.1, by rw [HOR.out.2]; exact HLT.out.1, by rw [HOR.out.2]; exact HLT.out.2, hbe, h1, h0⟩
          case measure => simp [intOf]; omega
        · have hmask : bits .and .u32 acc M = ubits b (32 * D) D i := by
            rw [HM.out, u32_mask D acc ha0' (by omega) HL2.out, HA.out]
            have h2 := pacc_low (dn 8 b (32 * D)) (8 * V) (D * i) D (by omega)
            rw [Int.natCast_pow]
            exact h2
          have hub := ubits_bd b (32 * D) D i
          have hpD : (2 : Int) ^ D ≤ 16384 := by
            have h1 := pow_mono2 D 14 hD1
            have h3 : (2 : Int) ^ 14 = 16384 := by decide
            omega
          obtain ⟨u, hu⟩ : ∃ u, u = ubits b (32 * D) D i := ⟨_, rfl⟩
          rw [← hu] at hmask hub
          have hu0 : 0 ≤ u := hub.1
          have hu1 : u < 16384 := by omega
          have HU := Lib.hid hu; clear hub hu hpD
          have HMK := Lib.hid hmask; clear hmask
          have hACC : acc / 2 ^ D = pacc (dn 8 b (32 * D)) (8 * V) (D * (i + 1)) := by rw [HA.out, pacc_out, ← hDi]
          have hpq : 0 ≤ acc / 2 ^ D ∧ acc / 2 ^ D < 256 := by
            rw [hACC]
            have h1 := pacc_bd (dn 8 b (32 * D)) (8 * V) (D * (i + 1)) (by omega)
            have h2 := pow_mono2 (8 * V - D * (i + 1)) 8 (by omega)
            have h3 : (2 : Int) ^ 8 = 256 := by decide
            omega
          have HACC := Lib.hid hACC; clear hACC
          obtain ⟨hq0, hq1⟩ := hpq
          have hmk := HMK.out
          have hDA : D ≤ A := by omega
          have hJ2 : A - D + D * (i + 1) = 8 * V := by omega
          have HJ2 := Lib.hid hJ2; clear hJ hJ2 hDi hDle hDle0
          have hs0 := hbe.size
          by_cases hle : u ≤ a + t
          · go_wp2_with (first | (with_reducible refine at_store 48 _ _ rfl ?_; refine wpList_store_int Try.sizeOf48 rfl _ _ rfl _ _ rfl _ rfl h1 (by omega) ?_; intro wn hn he; replace hbe := hbe.trans (he.below hs0 (Nat.le_succ _)); replace h0 := he.blk h0 (by omega); clear h1; have h1 := hn; clear hn he) | (go_at_call 48; refine (subToMont _ _ _ (by omega) (by omega) (by omega) (by omega)).mono ?_; rintro e w' ⟨rfl, rfl⟩))
            go_roundw
            case rel => exact ⟨i + 1, A - D, V, acc / 2 ^ D, by omega, by go_num, rfl, by go_num, rfl, HJ2, by omega, hV, HACC, hq0, hq1, Lib.hid (fun k hk => by
                by_cases e : k = i
                · subst e; rw [← HU.out]; exact hle
                · exact HOK.out k (by omega)), hbe, h1.congr (fun p _ => by
                by_cases e : p = i
                · subst e; rw [if_pos rfl, if_pos (by omega), uvS, ← HU.out]
                · rw [if_neg e]; by_cases e2 : p < i
                  · rw [if_pos e2, if_pos (by omega)]
                  · rw [if_neg e2, if_neg (by omega)]), h0⟩
            case measure => simp [intOf]; omega
          · go_wp2_with fail
            refine (errorsNew _ _).mono ?_
            rintro e w5 ⟨ty, vv, rfl, hb5⟩
            have h0 := h0.below hb5
            have hbe := belowChain hbe hb5 hbe.size
            go_wp2_with (first | (with_reducible refine at_store 50 _ _ rfl ?_; refine wpList_store_arr iR rfl _ _ rfl _ rfl rfl (h0) ?_))
            exact bodyPost_ret (v := .tuple #[.agg (arr .u32 256 fun _ => 0), .iface ty vv]) (results_arr_tmp Try.underlying50 iR rfl _ _ _ _ rfl rfl (h0.row _ _)) rfl ⟨below_setRow hbe (by first | omega | (simp; done) | (simp; omega)) _, .inr ⟨okB_false i hlt (by rw [← HU.out]; omega), ty, vv, rfl⟩⟩
    · obtain rfl : i = 256 := by omega
      have h1 : Blk wr (w.heap.size + 1) .u32 256 (uvS t D b) 50 := h1.congr fun p hp => if_pos hp
      go_wp2_with (first | (with_reducible refine at_loadx 50 11 rfl ?_; refine wpList_load_arr Try.underlying50 iR rfl _ rfl _ rfl (h1) ?_) | (with_reducible refine at_store 50 _ _ rfl ?_; refine wpList_store_arr iR rfl _ _ rfl _ rfl rfl (h0) ?_))
      exact bodyPost_ret (v := .tuple #[.agg (arr .u32 256 (uvS t D b)), .nilIface]) (results_arr_tmp Try.underlying50 iR rfl _ _ _ _ rfl rfl (h0.row _ _)) rfl ⟨below_setRow hbe (by first | omega | (simp; done) | (simp; omega)) _, .inl ⟨okB_true HOK.out, rfl⟩⟩

end Go.Proofs.Ytejolgicllogjaa
