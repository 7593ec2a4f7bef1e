/-
  A public key read: the walk.
-/
import Derived.Test.YteigpbeamdhjpaaDoorPk2
namespace Go.Proofs.YteigpbeamdhjpaaDoor
open Go.RowKit

/-- The numbers that a public key tells. -/
def pkt (b : Nat → Int) (r i : Nat) : Int := ubits (fun i => b (32 + 320 * r + i)) 320 10 i
theorem u8_mask (i : Nat) (x : Int) (h0 : 0 ≤ x) (h1 : x < 256) (hi : 2 ^ i - 1 < 256) : bits .and .u8 x ((2 ^ i - 1 : Nat) : Int) = x % ((2 ^ i : Nat) : Int) := by
  obtain ⟨X, rfl⟩ := Int.eq_ofNat_of_zero_le h0
  rw [u8_and_nat X _ (by omega) hi, Nat.and_two_pow_sub_one_eq_mod]
  rfl

theorem pubKeySize (s : Nat) (w : World) (hs : s < 3) : Calls Tryd.prog 41 #[.agg (arr .i64 8 (ps s))] w fun e w' => e = .returned (.int .i64 (32 + 320 * (kk s : Int))) ∧ Below w.heap.size w w' := by
  obtain ⟨hk0, hk1⟩ := kk_bd s hs
  have hc := Blk.cellv (Blk.new (g := w.heap.size) w .i64 8 (ps s) 75 rfl) 0 (kk s : Int) (by omega) (kk_ps s hs)
  generalize kk s = K at *
  go_enter Tryd.func41, Tryd.ntmps41
  go_wp2_with fail
  go_ret
  exact ⟨ret_int (by omega), (Below.refl _ _).alloc (Nat.le_refl _) _⟩
set_option maxRecDepth 100000 in
set_option maxHeartbeats 1000000 in
theorem pkDecodeNo (s len c gt ct : Nat) (v : Option Addr) (a : Option Addr) (w : World) (hs : s < 3) (he : GErr w 3) (_hl : len ≤ 140737488355328) (hne : len ≠ 32 + 320 * kk s) :
    Calls Tryd.prog 38 #[.slice v len c, .slice a gt ct, .agg (arr .i64 8 (ps s))] w fun e w' => (∃ t u, e = .returned (.tuple #[.slice none 0 0, .iface t u])) ∧ Below w.heap.size w w' := by
  go_enter Tryd.func38, Tryd.ntmps38
  go_wp2_with (first | (with_reducible refine at_load 75 _ rfl ?_; refine wpList_load_s Tryd.underlying75 rfl iPar rfl _ rfl _ rfl (Blk.new w _ _ _ _ rfl) ?_))
  refine (pubKeySize s _ hs).mono ?_
  rintro e w1 ⟨rfl, hb1⟩
  have hB1 := belowChain ((Below.refl w.heap.size w).alloc (Nat.le_refl _) (.cells (arr .i64 8 (ps s)) 75)) hb1 (by first | omega | (simp; done) | (simp; omega))
  obtain ⟨t, u, hc⟩ := he.below hB1
  have hn : ((len : Int) != 32 + 320 * ((kk s : Nat) : Int)) = true := by simp; omega
  go_wp2_with fail
  refine wp_region_quiet_lit (by kernel_rfl) (by kernel_rfl) ?_
  repeat (go_big_quiet_step (fail))
  refine wpQuiet_nil ?_
  intro _ hw'
  obtain ⟨nq, hw''⟩ := hw'
  subst hw''
  go_wp2_with fail
  go_ret2
  exact ⟨⟨_, _, rfl⟩, hB1.trans ⟨rfl, rfl, rfl, Nat.le_refl _, fun _ _ => rfl⟩⟩

set_option maxRecDepth 100000 in
set_option maxHeartbeats 1000000 in
theorem pkDecodeW (s g c gt ct : Nat) (b : Nat → Int) (w : World) (hs : s < 3) (hne : g ≠ gt) (hc : 32 + 320 * kk s ≤ c) (hcm : c ≤ maxLen) (hr : Rd .u8 w ⟨g, 0, none⟩ (32 + 320 * kk s) b) (hb : ∀ i, i < 32 + 320 * kk s → 0 ≤ b i ∧ b i < 256) (ht : Blk w gt .u16 (kk s * 256) (fun _ => 0) 32) :
    Calls Tryd.prog 38 #[.slice (some ⟨g, 0, none⟩) (32 + 320 * kk s) c, .slice (some ⟨gt, 0, none⟩) (kk s) ct, .agg (arr .i64 8 (ps s))] w fun e w' => e = .returned (.tuple #[.slice (some ⟨g, 0, none⟩) 32 c, .nilIface]) ∧ Blk w' gt .u16 (kk s * 256) (fun p => pkt b (p / 256) (p % 256)) 32 ∧ Ex gt w w' := by
  obtain ⟨hk0, hk1⟩ := kk_bd s hs
  have HR := Lib.hid hr; clear hr
  have HB := Lib.hid hb; clear hb
  simp only [maxLen] at hcm
  go_enter Tryd.func38, Tryd.ntmps38
  go_wp2_with (first | (with_reducible refine at_load 75 _ rfl ?_; refine wpList_load_s Tryd.underlying75 rfl iPar rfl _ rfl _ rfl (Blk.new w _ _ _ _ rfl) ?_))
  refine (pubKeySize s _ hs).mono ?_
  rintro e w1 ⟨rfl, hb1⟩
  have hB1 := belowChain ((Below.refl w.heap.size w).alloc (Nat.le_refl _) (.cells (arr .i64 8 (ps s)) 75)) hb1 (by first | omega | (simp; done) | (simp; omega))
  have hx := Ex.of_below hB1 gt
  have h1 := ht.below hB1
  clear hb1 hB1
  obtain ⟨K, hK⟩ : ∃ K, K = kk s := ⟨_, rfl⟩
  rw [← hK] at hk0 hk1 hc HR HB h1 ⊢
  have HK := Lib.hid hK; clear hK ht
  have hn : ((((32 + 320 * K : Nat)) : Int) != 32 + 320 * ((K : Nat) : Int)) = false := by simp
  go_wp2_with fail
  refine wp_region_quiet_lit (by kernel_rfl) (by kernel_rfl) ?_
  repeat (go_big_quiet_step (fail))
  refine wpQuiet_nil ?_
  intro _ hw'
  obtain ⟨nq, hw''⟩ := hw'
  subst hw''
  have h1 := h1.drewN nq
  have hx : Ex gt w (w1.drewN nq) := hx.bel ⟨rfl, rfl, rfl, Nat.le_refl _, fun _ _ => rfl⟩
  go_wp2_with fail
  have hL : 32 + 320 * K - 32 = 320 * K := by omega
  try rw [hL]
  clear hL
  go_loopw [0, 27] (fun v t wr => ∃ r o : Nat, r ≤ K ∧ t = .int .i64 (r : Int) ∧ v = .slice (some ⟨g, o, none⟩) (320 * K - 320 * r) (c - 32 - 320 * r) ∧ (r < K → o = 32 + 320 * r) ∧ Blk wr gt .u16 (K * 256) (fun p => if p < r * 256 then pkt b (p / 256) (p % 256) else 0) 32 ∧ Ex gt w wr) (fun _ t _ => K - (intOf t).toNat)
  case atStart => exact ⟨0, 32, by omega, rfl, rfl, fun _ => rfl, h1.congr (fun p _ => by rw [if_neg (by omega)]), hx⟩
  case round =>
    clear h1 hx
    obtain ⟨r, o, hr, rfl, rfl, ho, h1, hx⟩ := hrel
    by_cases hlt : r < K
    · obtain rfl := ho hlt
      clear ho
      go_wp2_with fail
      go_loopw [0, 9] (fun v t ws => ∃ m o : Nat, m ≤ 64 ∧ t = .int .i64 ((4 * m : Nat) : Int) ∧ v = .slice (some ⟨g, o, none⟩) (320 * K - 320 * r - 5 * m) (c - 32 - 320 * r - 5 * m) ∧ (320 * r + 5 * m < 320 * K → o = 32 + 320 * r + 5 * m) ∧ Blk ws gt .u16 (K * 256) (fun p => if p < r * 256 + 4 * m then pkt b (p / 256) (p % 256) else 0) 32 ∧ Ex gt w ws) (fun _ t _ => 256 - (intOf t).toNat)
      case atStart => exact ⟨0, 32 + 320 * r, by omega, rfl, rfl, fun _ => rfl, h1, hx⟩
      case round =>
        clear h1 hx
        obtain ⟨m, o, hm, rfl, rfl, ho, h1, hx⟩ := hrel
        by_cases hml : m < 64
        · obtain rfl := ho (by omega)
          clear ho
          have hrd := hx.rd HR.out hne
          have d0 := hrd.row (32 + 320 * r + 5 * m) (by omega)
          have d1 := hrd.row (32 + 320 * r + 5 * m + 1) (by omega)
          have d2 := hrd.row (32 + 320 * r + 5 * m + 2) (by omega)
          have d3 := hrd.row (32 + 320 * r + 5 * m + 3) (by omega)
          have d4 := hrd.row (32 + 320 * r + 5 * m + 4) (by omega)
          obtain ⟨b00, b01⟩ := HB.out (32 + 320 * r + 5 * m) (by omega)
          obtain ⟨b10, b11⟩ := HB.out (32 + 320 * r + 5 * m + 1) (by omega)
          obtain ⟨b20, b21⟩ := HB.out (32 + 320 * r + 5 * m + 2) (by omega)
          obtain ⟨b30, b31⟩ := HB.out (32 + 320 * r + 5 * m + 3) (by omega)
          obtain ⟨b40, b41⟩ := HB.out (32 + 320 * r + 5 * m + 4) (by omega)
          go_wp2_with fail
          refine wp_region_quiet_lit (by kernel_rfl) (by kernel_rfl) ?_
          repeat (go_big_quiet_step (fail))
          refine wpQuiet_nil ?_
          intro _ hw'
          obtain ⟨nq, hw''⟩ := hw'
          subst hw''
          have h1 := h1.drewN nq
          have hx : Ex gt w (wr.drewN nq) := hx.bel ⟨rfl, rfl, rfl, Nat.le_refl _, fun _ _ => rfl⟩
          clear d0 d1 d2 d3 d4 hrd
          have hu := ub10 (fun i => b (32 + 320 * r + i)) m hml (fun i hi => HB.out _ (by omega))
          have e0 : bits .or .u16 (b (32 + 320 * r + 5 * m)) (b (32 + 320 * r + 5 * m + 1) % 4 * 256) = pkt b r (4 * m) := by
            have h := u16_or 8 (b (32 + 320 * r + 5 * m)) (b (32 + 320 * r + 5 * m + 1) % 4) b00 (by rw [show (2 : Int) ^ 8 = 256 from rfl]; omega) (by omega) (by rw [show (2 : Int) ^ 8 = 256 from rfl]; omega)
            rw [show (2 : Int) ^ 8 = 256 from rfl] at h
            rw [h]
            exact hu.1.symm
          have e1 : bits .or .u16 (b (32 + 320 * r + 5 * m + 1) / 4) (b (32 + 320 * r + 5 * m + 2) % 16 * 64) = pkt b r (4 * m + 1) := by
            have h := u16_or 6 (b (32 + 320 * r + 5 * m + 1) / 4) (b (32 + 320 * r + 5 * m + 2) % 16) (by omega) (by rw [show (2 : Int) ^ 6 = 64 from rfl]; omega) (by omega) (by rw [show (2 : Int) ^ 6 = 64 from rfl]; omega)
            rw [show (2 : Int) ^ 6 = 64 from rfl] at h
            rw [h]
            exact hu.2.1.symm
          have e2 : bits .or .u16 (b (32 + 320 * r + 5 * m + 2) / 16) (b (32 + 320 * r + 5 * m + 3) % 64 * 16) = pkt b r (4 * m + 2) := by
            have h := u16_or 4 (b (32 + 320 * r + 5 * m + 2) / 16) (b (32 + 320 * r + 5 * m + 3) % 64) (by omega) (by rw [show (2 : Int) ^ 4 = 16 from rfl]; omega) (by omega) (by rw [show (2 : Int) ^ 4 = 16 from rfl]; omega)
            rw [show (2 : Int) ^ 4 = 16 from rfl] at h
            rw [h]
            exact hu.2.2.1.symm
          have e3 : bits .or .u16 (b (32 + 320 * r + 5 * m + 3) / 64) (b (32 + 320 * r + 5 * m + 4) * 4) = pkt b r (4 * m + 3) := by
            have h := u16_or 2 (b (32 + 320 * r + 5 * m + 3) / 64) (b (32 + 320 * r + 5 * m + 4)) (by omega) (by rw [show (2 : Int) ^ 2 = 4 from rfl]; omega) (by omega) (by rw [show (2 : Int) ^ 2 = 4 from rfl]; omega)
            rw [show (2 : Int) ^ 2 = 4 from rfl] at h
            rw [h]
            exact hu.2.2.2.symm
          have E0 := Lib.hid e0; have E1 := Lib.hid e1; have E2 := Lib.hid e2; have E3 := Lib.hid e3; clear e0 e1 e2 e3 hu
          have h255 : bits .and .u8 (b (32 + 320 * r + 5 * m + 4)) 255 = b (32 + 320 * r + 5 * m + 4) := by
            have h := u8_mask 8 (b (32 + 320 * r + 5 * m + 4)) b40 b41 (by decide)
            rw [show ((2 ^ 8 - 1 : Nat) : Int) = 255 from rfl, show ((2 ^ 8 : Nat) : Int) = 256 from rfl] at h
            rw [h]; omega
          have h3 : bits .and .u8 (b (32 + 320 * r + 5 * m + 1)) 3 = b (32 + 320 * r + 5 * m + 1) % 4 := by
            have h := u8_mask 2 (b (32 + 320 * r + 5 * m + 1)) b10 b11 (by decide)
            rw [show ((2 ^ 2 - 1 : Nat) : Int) = 3 from rfl, show ((2 ^ 2 : Nat) : Int) = 4 from rfl] at h
            exact h
          go_wp2_with (first | (with_reducible refine at_store 29 _ _ rfl ?_; refine wpList_store_int Tryd.sizeOf29 rfl _ _ rfl _ _ rfl _ rfl h1 (by omega) ?_; intro wn hn he; replace hx := hx.trans he; clear h1; have h1 := hn; clear hn he))
          go_roundw
          case rel => exact ⟨m + 1, if c - 32 - 320 * r - 5 * m = 5 then 32 + 320 * r + 5 * m else 32 + 320 * r + 5 * m + 5, by omega, by go_num, by rw [show 320 * K - 320 * r - 5 * m - 5 = 320 * K - 320 * r - 5 * (m + 1) from by omega, show c - 32 - 320 * r - 5 * m - 5 = c - 32 - 320 * r - 5 * (m + 1) from by omega]; split <;> rfl, fun h => by rw [if_neg (by omega)]; omega, h1.congr (fun p _ => by
              by_cases p3 : p = r * 256 + (4 * m + 3)
              · rw [if_pos p3, if_pos (by omega), E3.out, show p / 256 = r from by omega, show p % 256 = 4 * m + 3 from by omega]
              · rw [if_neg p3]; by_cases p2 : p = r * 256 + (4 * m + 2)
                · rw [if_pos p2, if_pos (by omega), E2.out, show p / 256 = r from by omega, show p % 256 = 4 * m + 2 from by omega]
                · rw [if_neg p2]; by_cases p1 : p = r * 256 + (4 * m + 1)
                  · rw [if_pos p1, if_pos (by omega), E1.out, show p / 256 = r from by omega, show p % 256 = 4 * m + 1 from by omega]
                  · rw [if_neg p1]; by_cases p0 : p = r * 256 + 4 * m
                    · rw [if_pos p0, if_pos (by omega), E0.out, show p / 256 = r from by omega, show p % 256 = 4 * m from by omega]
                    · rw [if_neg p0]; by_cases pl : p < r * 256 + 4 * m
                      · rw [if_pos pl, if_pos (by omega)]
                      · rw [if_neg pl, if_neg (by omega)]), hx⟩
          case measure => simp [intOf]; omega
        · obtain rfl : m = 64 := by omega
          go_wp2_with fail
          go_roundw
          case rel => exact ⟨r + 1, o, by omega, by go_num, by rw [show 320 * K - 320 * r - 5 * 64 = 320 * K - 320 * (r + 1) from by omega, show c - 32 - 320 * r - 5 * 64 = c - 32 - 320 * (r + 1) from by omega], fun h => by have := ho (by omega); omega, h1.congr (fun p _ => by rw [show r * 256 + 4 * 64 = (r + 1) * 256 from by omega]), hx⟩
          case measure => simp [intOf]; omega
    · obtain rfl : r = K := by omega
      go_wp2_with fail
      go_ret2
      exact ⟨rfl, by rw [← HK.out]; exact h1.congr (fun p hp => if_pos hp), hx⟩

end Go.Proofs.YteigpbeamdhjpaaDoor
