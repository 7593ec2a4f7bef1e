/-
  Packing by a number of bits that is told: the walk.
-/
import Derived.Test.YtejolgicllogjaaPack3
import Derived.Test.YtejolgicllogjaaSlow1
import Derived.Test.YtejolgicllogjaaSlowN
namespace Go.Proofs.Ytejolgicllogjaa
open Go.RowKit

set_option maxRecDepth 100000 in
set_option maxHeartbeats 1000000 in
theorem packSlow (B : Nat) (v : Value) (L D : Nat) (a b : Int) (z0 : Nat → Int) (r : Nat → Int) (w : World) (hB : B ≤ w.heap.size) (hL : L ≤ 65536) (a0 : 0 ≤ a) (a1 : a ≤ 8191) (b0 : 1 ≤ b) (b1 : b ≤ 8191) (hD : D = blen 62 (a + b).toNat) (hD0 : 1 ≤ D) (hD1 : D ≤ 14) (hv : Buf B w v L (32 * D) z0 5)
    (hr : ∀ i, i < 256 → 0 ≤ r i ∧ r i < 8380417) (hf : ∀ i, i < 256 → 0 ≤ b - cen (mred (r i)) 8380417 ∧ b - cen (mred (r i)) 8380417 < 2 ^ D) (h16 : ∀ i, i < 256 → b - cen (mred (r i)) 8380417 < 16384) :
    Calls Try.prog 47 #[v, .agg (arr .u32 256 r), .int .i64 a, .int .i64 b] w fun e w' => ∃ g c z, e = .returned (.slice (some ⟨g, 0, none⟩) (L + 32 * D) c) ∧ B ≤ g ∧ L + 32 * D ≤ c ∧ c ≤ 1099511627776 ∧ Blk w' g .u8 c z 5 ∧ (∀ i, i < L → z i = z0 i) ∧ (∀ j, j < 32 * D → z (L + j) = pby D (fun i => b - cen (mred (r i)) 8380417) 256 j) ∧ Below B w w' ∧ Ex g w w' := by
  have HR := Lib.hid hr; clear hr
  have HF := Lib.hid hf; clear hf
  have H16 := Lib.hid h16; clear h16
  have HV := Lib.hid hv; clear hv
  have HD := Lib.hid hD; clear hD
  go_enter Try.func47, Try.ntmps47
  go_wp2_with fail
  refine (bitsLen (a + b) _ (by omega) (by omega)).mono ?_
  rintro e w' ⟨rfl, rfl⟩
  rw [← HD.out]
  have hdiv : (256 * (D : Int)) / 8 = ((32 * D : Nat) : Int) := by omega
  go_wp2_with fail
  refine (sfa B v L (32 * D) z0 _ (by first | omega | (simp; done) | (simp; omega)) (by omega) (by omega) (HV.out.alloc _)).mono ?_
  rintro e w1 ⟨g, c, zz, rfl, hg, hc, hcm, h1, hz, hx, hne⟩
  clear hdiv
  have hne := HV.out.ne (m := w.heap.size + 1) (by omega) (by simpa using hne)
  have hr := hx.blk (Blk.new w .u32 256 r 50 rfl) (by omega)
  have hx := (Ex.of_below ((Below.refl _ _).alloc (Nat.le_refl _) _) g).trans hx
  have HZ := Lib.hid hz; clear hz
  go_wp2_with fail
  have hd16 : decide ((16 : Int) < (D : Int)) = false := by rw [decide_eq_false_iff_not]; omega
  try simp only [hd16]
  clear hd16
  go_loopw [36, 11, 12, 13] (fun t v ac ab wr => ∃ (i j o A : Nat) (acc : Int), i ≤ 256 ∧ t = .int .i64 (i : Int) ∧ v = .slice (some ⟨g, o, none⟩) (32 * D - j) (c - L - j) ∧ (j < 32 * D → o = L + j) ∧ Hid (8 * j + A = D * i) ∧ A < 8 ∧ ac = .int .u32 acc ∧ Hid (acc = pacc (dn D (fun i => b - cen (mred (r i)) 8380417) 256) (D * i) (8 * j)) ∧ 0 ≤ acc ∧ acc < 256 ∧ ab = .int .u64 (A : Int) ∧ Blk wr g .u8 c (fun t => if L ≤ t ∧ t < L + j then pby D (fun i => b - cen (mred (r i)) 8380417) 256 (t - L) else zz t) 5 ∧ Blk wr w.heap.size .u32 256 r 50 ∧ Ex g w wr) (fun t _ _ _ _ => 256 - (intOf t).toNat)
  case atStart => exact ⟨0, 0, L, 0, 0, by omega, rfl, rfl, fun _ => rfl, Lib.hid (by omega), by omega, rfl, Lib.hid (by rw [Nat.mul_zero, pacc_start]), by omega, by omega, rfl, h1.congr fun j _ => by rw [if_neg (by omega)], hr, hx⟩
  case round =>
    clear h1 hr hx
    obtain ⟨i, j, o, A, acc, hi, rfl, rfl, ho, HJ, hA, rfl, HA, ha0, ha1, rfl, h1, hr, hx⟩ := hrel
    by_cases hlt : i < 256
    · obtain ⟨hf0, hf1⟩ := HF.out i hlt
      have hf2 := H16.out i hlt
      obtain ⟨hr0, hr1⟩ := HR.out i hlt
      have hA2 : 1 ≤ (2 : Int) ^ A ∧ (2 : Int) ^ A ≤ 128 := by
        have : A = 0 ∨ A = 1 ∨ A = 2 ∨ A = 3 ∨ A = 4 ∨ A = 5 ∨ A = 6 ∨ A = 7 := by omega
        rcases this with rfl | rfl | rfl | rfl | rfl | rfl | rfl | rfl <;> decide
      have hJ := HJ.out
      have hpb := pacc_bd (dn D (fun i => b - cen (mred (r i)) 8380417) 256) (D * i) (8 * j) (by omega)
      rw [← HA.out, show D * i - 8 * j = A from by omega] at hpb
      obtain ⟨hm0, hm1⟩ := prod_lt (b - cen (mred (r i)) 8380417) (2 ^ A) 16383 128 hf0 (by omega) (by omega) hA2.2
      have hDi : D * (i + 1) = D * i + D := Nat.mul_succ _ _
      have hor : bits .or .u32 acc ((b - cen (mred (r i)) 8380417) * 2 ^ A % 4294967296) = pacc (dn D (fun i => b - cen (mred (r i)) 8380417) 256) (D * (i + 1)) (8 * j) := by
        rw [Int.emod_eq_of_lt hm0 (by omega), u32_or A acc _ ha0 hpb.2 hf0 (by omega), HA.out, hDi, pacc_in (dn D (fun i => b - cen (mred (r i)) 8380417) 256) (D * i) (8 * j) D (by omega), dn_div D (fun i => b - cen (mred (r i)) 8380417) 256 HF.out i hlt, show D * i - 8 * j = A from by omega]
      have hob : 0 ≤ bits .or .u32 acc ((b - cen (mred (r i)) 8380417) * 2 ^ A % 4294967296) ∧ bits .or .u32 acc ((b - cen (mred (r i)) 8380417) * 2 ^ A % 4294967296) < 4194304 := by
        rw [Int.emod_eq_of_lt hm0 (by omega), u32_or A acc _ ha0 hpb.2 hf0 (by omega)]
        omega
      have HOR := Lib.hid hor; have HOB := Lib.hid hob; have HDI := Lib.hid hDi
      clear hor hob hDi hf1 hpb hm0 hm1 hA2 hJ HA
      go_wp2_with (first | (with_reducible refine at_load 48 _ rfl ?_; refine wpList_load_int Try.isAgg48 rfl _ rfl _ _ rfl _ (hr.cell (by omega)) ?_) | (go_at_call 50; refine (centeredMod _ _ (by omega) (by omega)).mono ?_; rintro e w' ⟨rfl, rfl⟩))
      obtain ⟨ac2, hac2⟩ : ∃ x, x = bits .or .u32 acc ((b - cen (mred (r i)) 8380417) * 2 ^ A % 4294967296) := ⟨_, rfl⟩
      have hA2 := HOR.out
      have hob2 := HOB.out
      rw [← hac2] at hA2 hob2 ⊢
      have HA2 := Lib.hid hA2; clear hA2 hac2 HOR HOB
      obtain ⟨hob0, hob1⟩ := hob2
      go_loopw [11, 12, 13] (fun v ac ab ws => ∃ (j o A : Nat) (acc : Int), v = .slice (some ⟨g, o, none⟩) (32 * D - j) (c - L - j) ∧ (j < 32 * D → o = L + j) ∧ Hid (8 * j + A = D * (i + 1)) ∧ A < 22 ∧ ac = .int .u32 acc ∧ Hid (acc = pacc (dn D (fun i => b - cen (mred (r i)) 8380417) 256) (D * (i + 1)) (8 * j)) ∧ 0 ≤ acc ∧ acc < 4194304 ∧ ab = .int .u64 (A : Int) ∧ Blk ws g .u8 c (fun t => if L ≤ t ∧ t < L + j then pby D (fun i => b - cen (mred (r i)) 8380417) 256 (t - L) else zz t) 5 ∧ Blk ws w.heap.size .u32 256 r 50 ∧ Ex g w ws) (fun _ _ ab _ => (intOf ab).toNat)
      case atStart => exact ⟨j, o, A + D, ac2, rfl, ho, Lib.hid (by have := HDI.out; have := HJ.out; omega), by omega, rfl, HA2, hob0, hob1, by go_num, h1, hr, hx⟩
      case round =>
        clear h1 hr hx ho HJ ha0 ha1 hob0 hob1 HA2 hA hf0 hf2 hr0 hr1
        obtain ⟨j, o, A, acc, rfl, ho, HJ, hA, rfl, HA, ha0, ha1, rfl, h1, hr, hx⟩ := hrel
        have hDle : D * (i + 1) ≤ D * 256 := Nat.mul_le_mul_left D (by omega)
        by_cases hA8 : 8 ≤ A
        · have hj : j < 32 * D := by have := HJ.out; omega
          obtain rfl := ho hj
          clear ho
          have hby : acc % 256 = pby D (fun i => b - cen (mred (r i)) 8380417) 256 j := by
            have := pacc_low (dn D (fun i => b - cen (mred (r i)) 8380417) 256) (D * (i + 1)) (8 * j) 8 (by have := HJ.out; omega)
            rw [← HA.out] at this
            exact this
          have HBY := Lib.hid hby; clear hby hDle
          go_wp2_with (first | (with_reducible refine at_store 5 _ _ rfl ?_; refine wpList_store_int Try.sizeOf5 rfl _ _ rfl _ _ rfl _ rfl h1 (by omega) ?_; intro wn hn he; replace hr := he.blk hr (by omega); replace hx := hx.trans he; clear h1; have h1 := hn; clear hn he))
          go_roundw
          case rel => exact ⟨j + 1, if c - L - j = 1 then L + j else L + j + 1, A - 8, acc / 256, by rw [show 32 * D - j - 1 = 32 * D - (j + 1) from by omega, show c - L - j - 1 = c - L - (j + 1) from by omega]; split <;> rfl, fun h => by rw [if_neg (by omega)]; omega, Lib.hid (by have := HJ.out; omega), by omega, rfl, Lib.hid (by rw [HA.out]; exact pacc_out _ _ _ 8), by omega, by omega, by go_num, h1.congr fun t _ => by
              by_cases e : t = L + j
              · subst e; rw [if_pos rfl, if_pos (by omega), HBY.out]; congr 1; omega
              · rw [if_neg e]; by_cases e2 : L ≤ t ∧ t < L + j
                · rw [if_pos e2, if_pos (by omega)]
                · rw [if_neg e2, if_neg (by omega)], hr, hx⟩
          case measure => simp [intOf]; omega
        · have hlt8 : acc < 256 := by
            have hp := pacc_bd (dn D (fun i => b - cen (mred (r i)) 8380417) 256) (D * (i + 1)) (8 * j) (by have := HJ.out; omega)
            have e : D * (i + 1) - 8 * j = A := by have := HJ.out; omega
            rw [← HA.out, e] at hp
            have hA2 : (2 : Int) ^ A ≤ 128 := by
              have : A = 0 ∨ A = 1 ∨ A = 2 ∨ A = 3 ∨ A = 4 ∨ A = 5 ∨ A = 6 ∨ A = 7 := by omega
              rcases this with rfl | rfl | rfl | rfl | rfl | rfl | rfl | rfl <;> decide
            omega
          clear hDle
          go_wp2_with fail
          go_roundw
          case rel => exact ⟨i + 1, j, o, A, acc, by omega, by go_num, rfl, ho, HJ, by omega, rfl, HA, ha0, hlt8, rfl, h1, hr, hx⟩
          case measure => simp [intOf]; omega
    · obtain rfl : i = 256 := by omega
      obtain rfl : A = 0 := by have := HJ.out; omega
      obtain rfl : j = 32 * D := by have := HJ.out; omega
      go_wp2_with fail
      go_ret
      refine ⟨g, c, _, rfl, hg, hc, hcm, h1, fun i hi => ?_, fun j hj => ?_, hx.below hB hg, hx⟩
      · rw [if_neg (by omega)]; exact HZ.out i hi
      · rw [if_pos (by omega)]; congr 1; omega

end Go.Proofs.Ytejolgicllogjaa
