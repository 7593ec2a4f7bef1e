/-
  Hints as bytes: the walk.
-/
import Derived.Test.YtanfpnidlgejhaaDoorPk3
namespace Go.Proofs.YtanfpnidlgejhaaDoor
open Go.RowKit

def upd (f : Nat → Int) (i : Nat) (v : Int) : Nat → Int := fun j => if j = i then v else f j
/-- How many of the first p hints are set. -/
def hc (H : Nat → Nat → Bool) : Nat → Nat
  | 0 => 0
  | p + 1 => hc H p + (if H (p / 256) (p % 256) then 1 else 0)
/-- The bytes behind j hints of row r. -/
def hin (H : Nat → Nat → Bool) (f : Nat → Int) (r : Nat) : Nat → Nat → Int
  | 0 => f
  | j + 1 => if H r j then upd (hin H f r j) (hc H (256 * r + j)) j else hin H f r j
/-- The bytes behind r rows. -/
def hrow (H : Nat → Nat → Bool) (om : Nat) : Nat → Nat → Int
  | 0 => fun _ => 0
  | r + 1 => upd (hin H (hrow H om r) r 256) (om + r) (hc H (256 * (r + 1)))
theorem hc_at (H : Nat → Nat → Bool) (r j : Nat) (hj : j < 256) : hc H (256 * r + (j + 1)) = hc H (256 * r + j) + (if H r j then 1 else 0) := by
  rw [← Nat.add_assoc, hc, show (256 * r + j) / 256 = r from by omega, show (256 * r + j) % 256 = j from by omega]
theorem hc_mono (H : Nat → Nat → Bool) (p q : Nat) : hc H p ≤ hc H (p + q) := by
  induction q with
  | zero => exact Nat.le_refl _
  | succ q ih => rw [← Nat.add_assoc, hc]; split <;> omega
theorem hc_le (H : Nat → Nat → Bool) {p q : Nat} (h : p ≤ q) : hc H p ≤ hc H q := by
  have := hc_mono H p (q - p)
  rwa [Nat.add_sub_cancel' h] at this
/-- How many hints a set has at most. -/
def om : Nat → Nat
  | 0 => 80
  | 1 => 55
  | _ => 75
theorem om_ps (s : Nat) (hs : s < 3) : ps s 7 = (om s : Int) := by
  have h3 : s = 0 ∨ s = 1 ∨ s = 2 := by omega
  rcases h3 with rfl | rfl | rfl <;> rfl
theorem om_ss (s : Nat) (hs : s < 3) : ss s 6 = (om s : Int) := by
  have h3 : s = 0 ∨ s = 1 ∨ s = 2 := by omega
  rcases h3 with rfl | rfl | rfl <;> rfl
theorem om_bd (s : Nat) (hs : s < 3) : 55 ≤ om s ∧ om s ≤ 80 := by
  have h3 : s = 0 ∨ s = 1 ∨ s = 2 := by omega
  rcases h3 with rfl | rfl | rfl <;> decide
def hb (H : Nat → Nat → Bool) (r j : Nat) : Int := if H r j then 1 else 0

set_option maxRecDepth 100000 in
set_option maxHeartbeats 1000000 in
theorem sfaNil (n : Nat) (w : World) (h0 : 0 < n) (h1 : n ≤ 1099511627776) :
    Calls Tryd.prog 56 #[.slice none 0 0, .int .i64 (n : Int)] w fun e w' => e = .returned (.tuple #[.slice (some ⟨w.heap.size, 0, none⟩) n n, .slice (some ⟨w.heap.size, 0, none⟩) n n]) ∧ Blk w' w.heap.size .u8 n (fun _ => 0) 5 ∧ Below w.heap.size w w' := by
  go_enter Tryd.func56, Tryd.ntmps56
  go_wp2_with (first | (with_reducible refine at_make _ _ _ rfl ?_; refine wpList_make_int Tryd.underlying22 bInfo rfl _ _ rfl _ _ n n _ _ rfl rfl rfl rfl (Nat.le_refl _) h1 ?_) | (with_reducible refine at_copy _ _ _ _ rfl ?_; refine wpList_copy_nothing rfl _ _ _ _ rfl _ Tryd.underlying22 iByte _ _ _ _ _ _ rfl rfl (Nat.zero_min _) ?_))
  go_ret2
  exact ⟨rfl, Blk.new _ _ _ _ _ rfl, (Below.refl _ _).alloc (Nat.le_refl _) _⟩

set_option maxRecDepth 100000 in
set_option maxHeartbeats 1000000 in
theorem hintEncodeW (s g2 c2 : Nat) (H : Nat → Nat → Bool) (w : World) (hs : s < 3) (hc2 : kk s ≤ c2) (hm : MatI .u8 w ⟨g2, 0, none⟩ (kk s) (hb H)) (hn : hc H (256 * kk s) ≤ om s) :
    Calls Tryd.prog 50 #[.slice none 0 0, .slice (some ⟨g2, 0, none⟩) (kk s) c2, .agg (arr .i64 8 (ps s))] w fun e w' => ∃ g, e = .returned (.slice (some ⟨g, 0, none⟩) (om s + kk s) (om s + kk s)) ∧ w.heap.size ≤ g ∧ Blk w' g .u8 (om s + kk s) (hrow H (om s) (kk s)) 5 ∧ Below w.heap.size w w' := by
  obtain ⟨hk0, hk1⟩ := kk_bd s hs
  obtain ⟨ho0, ho1⟩ := om_bd s hs
  have hkp := kk_ps s hs
  have hop := om_ps s hs
  have HM := Lib.hid hm; clear hm
  have HN := Lib.hid hn; clear hn
  obtain ⟨K, hK⟩ : ∃ K, K = kk s := ⟨_, rfl⟩
  obtain ⟨O, hO⟩ : ∃ O, O = om s := ⟨_, rfl⟩
  rw [← hK] at hk0 hk1 hkp hc2 HM HN ⊢
  rw [← hO] at ho0 ho1 hop HN ⊢
  clear hK hO
  have f5 := Blk.new (g := w.heap.size) w .i64 8 (ps s) 76 rfl
  have hck := f5.cellv 0 (K : Int) (by omega) hkp
  have hco := f5.cellv 7 (O : Int) (by omega) hop
  go_enter Tryd.func50, Tryd.ntmps50
  go_wp2_with fail
  refine wp_region_quiet_lit (by kernel_rfl) (by kernel_rfl) ?_
  repeat (go_big_quiet_step (fail))
  refine wpQuiet_nil ?_
  intro _ hw'
  obtain ⟨nq, hw''⟩ := hw'
  subst hw''
  have hbe : Below w.heap.size w ((w.alloc (.cells (arr .i64 8 (ps s)) 76)).drewN nq) := ((Below.refl _ _).alloc (Nat.le_refl _) _).trans ⟨rfl, rfl, rfl, Nat.le_refl _, fun _ _ => rfl⟩
  have hbe0 := hbe
  go_wp2_with fail
  refine (sfaNil (O + K) _ (by omega) (by omega)).mono ?_
  rintro e w1 ⟨rfl, h1, hb1⟩
  have hbe := belowChain hbe hb1 hbe.size
  have hG0 := hbe0.size
  obtain ⟨G, hG⟩ : ∃ G, G = ((w.alloc (.cells (arr .i64 8 (ps s)) 76)).drewN nq).heap.size := ⟨_, rfl⟩
  rw [← hG] at h1 hG0 ⊢
  clear hG hb1 hbe0 hck hco f5
  go_wp2_with fail
  go_loopw [11, 27] (fun x t wr => ∃ r : Nat, r ≤ K ∧ t = .int .i64 (r : Int) ∧ x = .int .u8 (hc H (256 * r) : Int) ∧ Blk wr G .u8 (O + K) (hrow H O r) 5 ∧ Below w.heap.size w wr) (fun _ t _ => K - (intOf t).toNat)
  case atStart => exact ⟨0, by omega, rfl, rfl, h1, hbe⟩
  case round =>
    clear h1 hbe
    obtain ⟨r, hr, rfl, rfl, h1, hbe⟩ := hrel
    have hsz := hbe.size
    by_cases hlt : r < K
    · go_wp2_with fail
      go_loopw [11, 30] (fun x t ws => ∃ j : Nat, j ≤ 256 ∧ t = .int .i64 (j : Int) ∧ x = .int .u8 (hc H (256 * r + j) : Int) ∧ Blk ws G .u8 (O + K) (hin H (hrow H O r) r j) 5 ∧ Below w.heap.size w ws) (fun _ t _ => 256 - (intOf t).toNat)
      case atStart => exact ⟨0, by omega, rfl, rfl, h1, hbe⟩
      case round =>
        clear h1 hbe hsz
        obtain ⟨j, hj, rfl, rfl, h1, hbe⟩ := hrel
        have hsz := hbe.size
        by_cases hjl : j < 256
        · have hcl := (HM.out.below hbe).at r j hlt hjl
          have hat := hc_at H r j hjl
          have hle : hc H (256 * r + (j + 1)) ≤ O := Nat.le_trans (hc_le H (by omega)) HN.out
          obtain ⟨C, hC⟩ : ∃ C, C = hc H (256 * r + j) := ⟨_, rfl⟩
          have HC := Lib.hid hC
          rw [← hC] at hat ⊢
          clear hC
          cases hH : H r j with
          | true =>
            simp only [hb, hH, if_true] at hcl hat
            go_wp2_with (first | (with_reducible refine at_load 5 _ rfl ?_; refine wpList_load_int Tryd.isAgg5 rfl _ rfl _ _ rfl _ hcl ?_) | (with_reducible refine at_store 5 _ _ rfl ?_; refine wpList_store_int Tryd.sizeOf5 rfl _ _ rfl _ _ rfl _ rfl h1 (by omega) ?_; intro wn hn he; replace hbe := hbe.trans (he.below hsz (by omega)); clear h1; have h1 := hn; clear hn he))
            go_roundw
            case rel =>
              exact ⟨j + 1, by omega, by go_num, by rw [hat]; simp, h1.congr (fun p _ => by rw [hin, hH, if_pos rfl, upd, ← HC.out]), hbe⟩
            case measure => simp [intOf]; omega
          | false =>
            simp only [hb, hH] at hcl hat
            go_wp2_with (first | (with_reducible refine at_load 5 _ rfl ?_; refine wpList_load_int Tryd.isAgg5 rfl _ rfl _ _ rfl _ hcl ?_))
            go_roundw
            case rel => exact ⟨j + 1, by omega, by go_num, by rw [hat]; simp, by rw [hin, hH]; exact h1, hbe⟩
            case measure => simp [intOf]; omega
        · obtain rfl : j = 256 := by omega
          go_wp2_with (first | (with_reducible refine at_store 5 _ _ rfl ?_; refine wpList_store_int Tryd.sizeOf5 rfl _ _ rfl _ _ rfl _ rfl h1 (by omega) ?_; intro wn hn he; replace hbe := hbe.trans (he.below hsz (by omega)); clear h1; have h1 := hn; clear hn he))
          go_roundw
          case rel => exact ⟨r + 1, by omega, by go_num, by rw [show 256 * (r + 1) = 256 * r + 256 from by omega], h1.congr (fun p _ => by rw [hrow, upd, show 256 * (r + 1) = 256 * r + 256 from by omega]), hbe⟩
          case measure => simp [intOf]; omega
    · obtain rfl : r = K := by omega
      go_wp2_with fail
      go_ret
      exact ⟨G, rfl, hG0, h1, hbe⟩

set_option maxRecDepth 100000 in
set_option maxHeartbeats 1000000 in
theorem cloneB8I (x : Addr) (len cap : Nat) (Z : Nat → Nat → Int) (w : World) (h1 : len ≤ 65536) (hm : MatI .u8 w x len Z) :
    Calls Tryd.prog 38 #[.slice (some x) len cap] w fun e w' => (∃ a' c, e = .returned (.slice a' len c) ∧ MatV .u8 w.heap.size w' a' len Z ∧ len ≤ c) ∧ Below w.heap.size w w' := by
  obtain ⟨i, z, hi, hz0, hz1, hz2, hz3⟩ := mInfoB8
  have hnil : (binOp .eql 28 (.slice (some x) len cap) (.slice none 0 0)).run Tryd.prog w = .ok (.bool false) w := run_eql_slice_nil w _ _ _ _ _ Tryd.underlying28
  go_enter Tryd.func38, Tryd.ntmps38
  go_wp2_with (first | (at_builtin; refine wpList_append_own _ rfl _ _ 28 rfl w.heap.size 66 i z 256 256 Tryd.underlying28 hi hz0 hz1 hz2 hz3 (by decide) _ _ _ rfl (ownsRow_emptyM w _ _ (Nat.le_refl _)) x len cap ((List.range (len * 256)).map fun p => Value.int .u8 (Z (p / 256) (p % 256))) rfl ?c1 ?c2 ?c3 ?c4 ?c5 ?c6 ?_))
  case c1 => simp
  case c2 =>
    intro j u hj
    have hlt : j < len * 256 := by
      have := (List.getElem?_eq_some_iff.1 hj).1
      simpa using this
    rw [List.getElem?_map, List.getElem?_range hlt] at hj
    cases hj
    have h := hm (j / 256) (by omega) (j % 256) (by omega)
    rw [show j / 256 * 256 + j % 256 = j from by omega] at h
    exact (Below.cell ((Below.refl w.heap.size w).alloc (Nat.le_refl _) _) (p := x.add j) (block_lt_of_cell h)).trans h
  case c3 =>
    intro u hu
    obtain ⟨j, _, rfl⟩ := List.mem_map.1 hu
    rfl
  case c4 => simp only [maxLen]; omega
  case c5 => omega
  case c6 => simp
  intro v' w1 hown hgr _
  obtain ⟨a', c, rfl, hv, hnc⟩ := matV_of_owns hown
  go_wp2_with fail
  go_ret
  exact ⟨⟨a', c, rfl, hv, hnc⟩, ((Below.refl _ _).alloc (Nat.le_refl _) _).grown hgr (by simp) (fun k hk => by cases hk; exact Nat.le_refl _)⟩

/-- What writes hints leaves behind. -/
def HPost (s : Nat) (H : Nat → Nat → Bool) (w : World) (e : Ending) (w' : World) : Prop := ∃ g, e = .returned (.slice (some ⟨g, 0, none⟩) (om s + kk s) (om s + kk s)) ∧ w.heap.size ≤ g ∧ Blk w' g .u8 (om s + kk s) (hrow H (om s) (kk s)) 5 ∧ Below w.heap.size w w'

end Go.Proofs.YtanfpnidlgejhaaDoor
