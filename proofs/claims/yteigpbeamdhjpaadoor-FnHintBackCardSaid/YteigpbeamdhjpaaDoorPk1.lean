/-
  A public key written: the walk.
-/
import Derived.Test.YteigpbeamdhjpaaDoorMat3
import Derived.Test.YteigpbeamdhjpaaDoorPkN
import Derived.Test.YteigpbeamdhjpaaDoorSets
import Derived.Test.YteigpbeamdhjpaaDoorCell
import Derived.Laws.AppendOwn
namespace Go.Proofs.YteigpbeamdhjpaaDoor
open Go.RowKit

/-- How many polynomials a set has. -/
def kk : Nat → Nat
  | 0 => 4
  | 1 => 6
  | _ => 8
theorem kk_ps (s : Nat) (hs : s < 3) : ps s 0 = (kk s : Int) := by
  have h3 : s = 0 ∨ s = 1 ∨ s = 2 := by omega
  rcases h3 with rfl | rfl | rfl <;> rfl
theorem kk_ss (s : Nat) (hs : s < 3) : ss s 0 = (kk s : Int) := by
  have h3 : s = 0 ∨ s = 1 ∨ s = 2 := by omega
  rcases h3 with rfl | rfl | rfl <;> rfl
theorem kk_bd (s : Nat) (hs : s < 3) : 4 ≤ kk s ∧ kk s ≤ 8 := by
  have h3 : s = 0 ∨ s = 1 ∨ s = 2 := by omega
  rcases h3 with rfl | rfl | rfl <;> decide
/-- The first n bytes. -/
def bl (f : Nat → Int) (n : Nat) : List Value := (List.range n).map fun p => Value.int .u8 (f p)
theorem bl_more (f : Nat → Int) (n m : Nat) : bl f n ++ (List.range m).map (fun j => Value.int .u8 (f (n + j))) = bl f (n + m) := by
  unfold bl
  rw [List.range_add, List.map_append, List.map_map]
  rfl
theorem bl_congr (f g : Nat → Int) (n : Nat) (h : ∀ i, i < n → f i = g i) : bl f n = bl g n := by
  unfold bl
  exact List.map_congr_left fun p hp => by rw [h p (List.mem_range.1 hp)]
theorem one_bl (f : Nat → Int) (n : Nat) : ∀ u ∈ (List.range n).map (fun j => Value.int .u8 (f j)), u.oneCell' = true := by
  intro u hu
  obtain ⟨j, _, rfl⟩ := List.mem_map.1 hu
  rfl
theorem bl_5 (f : Nat → Int) (n : Nat) : bl f n ++ [.int .u8 (f n), .int .u8 (f (n + 1)), .int .u8 (f (n + 2)), .int .u8 (f (n + 3)), .int .u8 (f (n + 4))] = bl f (n + 5) := bl_more f n 5
theorem owns_ne {w : World} {base : Nat} {e t : TypeId} {size n m g : Nat} {k : IntKind} {z : Nat → Int} {v : Value} {xs : List Value} (h : w.ownsRow base e size v n xs) (hb : Blk w g k m z t) (ht : t ≠ e) : v.ownBlock ≠ some g := by
  intro hv
  obtain ⟨_, ⟨h1, _⟩ | ⟨g', c, cur, h1, _, hh, _⟩⟩ := h
  · rw [h1] at hv; simp [Value.ownBlock] at hv
  · rw [h1] at hv
    simp [Value.ownBlock] at hv
    subst hv
    unfold Blk at hb
    rw [hb] at hh
    simp at hh
    exact ht hh.2
theorem bl_and (f g : Nat → Int) (n m : Nat) (h : ∀ j, j < m → g j = f (n + j)) : bl f n ++ (List.range m).map (fun j => Value.int .u8 (g j)) = bl f (n + m) := by
  rw [← bl_more f n m]
  congr 1
  exact List.map_congr_left fun j hj => by rw [h j (List.mem_range.1 hj)]
theorem owns_mono {w : World} {base base' : Nat} {e : TypeId} {size n : Nat} {v : Value} {xs : List Value} (h : w.ownsRow base e size v n xs) (hb : base' ≤ base) : w.ownsRow base' e size v n xs := by
  obtain ⟨h1, h0 | ⟨g, c, cur, hv, hg, hr⟩⟩ := h
  · exact ⟨h1, .inl h0⟩
  · exact ⟨h1, .inr ⟨g, c, cur, hv, Nat.le_trans hb hg, hr⟩⟩
theorem news_rd {w : World} {x : Addr} {n : Nat} {f : Nat → Int} (h : Rd .u8 w x n f) : ∀ j u, ((List.range n).map fun i => Value.int .u8 (f i))[j]? = some u → w.cell? (x.add j) = some u := by
  intro j u hj
  have hjl : j < n := by
    have := (List.getElem?_eq_some_iff.1 hj).1
    simpa using this
  rw [h j hjl]
  simpa [hjl] using hj

set_option maxRecDepth 100000 in
set_option maxHeartbeats 1000000 in
theorem pkEncodeW (s g1 g2 c1 c2 : Nat) (rho : Nat → Int) (Z : Nat → Nat → Int) (w : World) (hs : s < 3) (hr : Rd .u8 w ⟨g1, 0, none⟩ 32 rho) (hc2 : kk s ≤ c2) (hm : MatI .u16 w ⟨g2, 0, none⟩ (kk s) Z) (hz : ∀ r, r < kk s → ∀ j, j < 256 → 0 ≤ Z r j ∧ Z r j < 1024) :
    Calls Tryd.prog 36 #[.slice none 0 0, .slice (some ⟨g1, 0, none⟩) 32 c1, .slice (some ⟨g2, 0, none⟩) (kk s) c2, .agg (arr .i64 8 (ps s))] w fun e w' => (∃ v, e = .returned v ∧ w'.ownsRow w.heap.size 5 1 v (32 + 320 * kk s) (bl (pkb rho Z) (32 + 320 * kk s))) ∧ Below w.heap.size w w' := by
  obtain ⟨bi, bi1, bi2, bi3, bi4⟩ := byteInfo
  obtain ⟨hk0, hk1⟩ := kk_bd s hs
  have hkp := kk_ps s hs
  have HZ := Lib.hid hz; clear hz
  have HM := Lib.hid hm; clear hm
  have HR := Lib.hid hr; clear hr
  obtain ⟨K, hK⟩ : ∃ K, K = kk s := ⟨_, rfl⟩
  rw [← hK] at hk0 hk1 hkp hc2 HM HZ ⊢
  have HK := Lib.hid hK; clear hK
  have hc := Blk.cellv (Blk.new (g := w.heap.size) w .i64 8 (ps s) 75 rfl) 0 (K : Int) (by omega) hkp
  go_enter Tryd.func36, Tryd.ntmps36
  go_wp2_with (first | (at_builtin; refine wpList_append_own _ rfl _ _ 30 rfl w.heap.size 5 bi (.int .u8 0) 1 1 Tryd.underlying30 bi1 bi2 bi3 bi4 rfl (by decide) _ _ _ rfl (World.ownsRow_nil _ w.heap.size 5 1) ⟨g1, 0, none⟩ 32 c1 ((List.range 32).map fun i => Value.int .u8 (rho i)) rfl ?c1 ?c2 ?c3 ?c4 ?c5 ?c6 ?_))
  case c1 => simp
  case c2 => exact news_rd (HR.out.below ((Below.refl _ _).alloc (Nat.le_refl _) _))
  case c3 => exact one_bl rho 32
  case c4 => simp only [maxLen]; omega
  case c5 => omega
  case c6 => simp
  intro v1 w1 hown1 hgr1 _
  have hB1 := ((Below.refl w.heap.size w).alloc (Nat.le_refl _) (.cells (arr .i64 8 (ps s)) 75)).grown hgr1 (by simp) (fun k hk => by cases hk)
  have hc1 : w1.cell? ⟨w.heap.size, 0, none⟩ = some (.int .i64 (K : Int)) := by
    have := hgr1.cell hc (by simp [Value.ownBlock])
    exact this
  have hown1 : w1.ownsRow w.heap.size 5 1 v1 32 (bl (pkb rho Z) 32) := by
    have e : bl rho 32 = bl (pkb rho Z) 32 := bl_congr _ _ _ fun i hi => by unfold pkb; rw [if_pos hi]
    rw [← e]
    exact hown1
  go_wp2_with fail
  go_loopw [9, 30] (fun v t wr => ∃ r : Nat, r ≤ K ∧ t = .int .i64 (r : Int) ∧ wr.ownsRow w.heap.size 5 1 v (32 + 320 * r) (bl (pkb rho Z) (32 + 320 * r)) ∧ Below w.heap.size w wr) (fun _ t _ => K - (intOf t).toNat)
  case atStart => exact ⟨0, by omega, rfl, hown1, hB1⟩
  case round =>
    clear hown1 hB1 hgr1 hc1 hc
    obtain ⟨r, hr, rfl, hown, hbe⟩ := hrel
    by_cases hlt : r < K
    · have hrow := Lib.hid ((HM.out.below hbe).rowAt r hlt)
      have hs0 := hbe.size
      obtain ⟨G5, hG5⟩ : ∃ G5, G5 = wr.heap.size := ⟨_, rfl⟩
      go_wp2_with (first | (with_reducible refine at_loadx 32 32 rfl ?_; refine wpList_load_at Tryd.underlying32 iW rfl _ rfl ⟨g2, r * 256, none⟩ rfl hrow.out ?_) | (with_reducible refine at_storex 32 11 _ rfl ?_; refine wpList_store_arr iW rfl _ _ rfl _ rfl rfl (Blk.new wr .u16 256 (fun _ => 0) 32 rfl) ?_))
      have h5 := (Blk.new wr .u16 256 (fun _ => 0) 32 rfl).row .u16 (Z r)
      have hown := ownsRow_below hown (below_setRow ((Below.refl wr.heap.size wr).alloc (Nat.le_refl _) (.cells (arr .u16 256 (fun _ => 0)) 32)) (g := wr.heap.size) (Nat.le_refl _) (arr .u16 256 (Z r)))
      have hbe := below_setRow (hbe.alloc hs0 (.cells (arr .u16 256 (fun _ => 0)) 32)) (g := wr.heap.size) hs0 (arr .u16 256 (Z r))
      rw [← hG5] at h5 hown hbe ⊢
      have hG5b : w.heap.size ≤ G5 := by omega
      clear hG5
      go_loopw [9, 12] (fun v t ws => ∃ m : Nat, m ≤ 64 ∧ t = .int .i64 ((4 * m : Nat) : Int) ∧ ws.ownsRow w.heap.size 5 1 v (32 + 320 * r + 5 * m) (bl (pkb rho Z) (32 + 320 * r + 5 * m)) ∧ Below w.heap.size w ws ∧ Blk ws G5 .u16 256 (Z r) 32) (fun _ t _ => 256 - (intOf t).toNat)
      case atStart => exact ⟨0, by omega, rfl, hown, hbe, h5⟩
      case round =>
        clear hown hbe h5
        obtain ⟨m, hm, rfl, hown, hbe, h5⟩ := hrel
        have hne := owns_ne hown h5 (by decide)
        by_cases hml : m < 64
        · obtain ⟨c00, c01⟩ := HZ.out r hlt (4 * m) (by omega)
          obtain ⟨c10, c11⟩ := HZ.out r hlt (4 * m + 1) (by omega)
          obtain ⟨c20, c21⟩ := HZ.out r hlt (4 * m + 2) (by omega)
          obtain ⟨c30, c31⟩ := HZ.out r hlt (4 * m + 3) (by omega)
          have hp := pb10 (Z r) (HZ.out r hlt) m hml
          have e0 : Z r (4 * m) % 256 = (pkb rho Z) (32 + 320 * r + 5 * m + 0) := by
            rw [show 32 + 320 * r + 5 * m + 0 = 32 + 320 * r + (5 * m + 0) from by omega, pkb_at _ _ _ _ (by omega), hp.1]
          have e1 : bits .or .u16 (Z r (4 * m) / 256) (Z r (4 * m + 1) * 4) % 256 = (pkb rho Z) (32 + 320 * r + 5 * m + 1) := by
            have h := u16_or 2 (Z r (4 * m) / 256) (Z r (4 * m + 1)) (by omega) (by rw [show (2 : Int) ^ 2 = 4 from rfl]; omega) c10 (by rw [show (2 : Int) ^ 2 = 4 from rfl]; omega)
            rw [show (2 : Int) ^ 2 = 4 from rfl] at h
            rw [show 32 + 320 * r + 5 * m + 1 = 32 + 320 * r + (5 * m + 1) from by omega, pkb_at _ _ _ _ (by omega), hp.2.1, h]
            omega
          have e2 : bits .or .u16 (Z r (4 * m + 1) / 64) (Z r (4 * m + 2) * 16) % 256 = (pkb rho Z) (32 + 320 * r + 5 * m + 2) := by
            have h := u16_or 4 (Z r (4 * m + 1) / 64) (Z r (4 * m + 2)) (by omega) (by rw [show (2 : Int) ^ 4 = 16 from rfl]; omega) c20 (by rw [show (2 : Int) ^ 4 = 16 from rfl]; omega)
            rw [show (2 : Int) ^ 4 = 16 from rfl] at h
            rw [show 32 + 320 * r + 5 * m + 2 = 32 + 320 * r + (5 * m + 2) from by omega, pkb_at _ _ _ _ (by omega), hp.2.2.1, h]
            omega
          have e3 : bits .or .u16 (Z r (4 * m + 2) / 16) (Z r (4 * m + 3) * 64) % 256 = (pkb rho Z) (32 + 320 * r + 5 * m + 3) := by
            have h := u16_or 6 (Z r (4 * m + 2) / 16) (Z r (4 * m + 3)) (by omega) (by rw [show (2 : Int) ^ 6 = 64 from rfl]; omega) c30 (by rw [show (2 : Int) ^ 6 = 64 from rfl]; omega)
            rw [show (2 : Int) ^ 6 = 64 from rfl] at h
            rw [show 32 + 320 * r + 5 * m + 3 = 32 + 320 * r + (5 * m + 3) from by omega, pkb_at _ _ _ _ (by omega), hp.2.2.2.1, h]
            omega
          have e4 : Z r (4 * m + 3) / 4 = (pkb rho Z) (32 + 320 * r + 5 * m + 4) := by
            rw [show 32 + 320 * r + 5 * m + 4 = 32 + 320 * r + (5 * m + 4) from by omega, pkb_at _ _ _ _ (by omega), hp.2.2.2.2]
          have E0 := Lib.hid e0; have E1 := Lib.hid e1; have E2 := Lib.hid e2; have E3 := Lib.hid e3; have E4 := Lib.hid e4; clear e0 e1 e2 e3 e4 hp
          have hs1 := hbe.size
          go_wp2_with (first | (with_reducible refine at_load 29 _ rfl ?_; refine wpList_load_int Tryd.isAgg29 rfl _ rfl _ _ rfl _ (h5.cell (by omega)) ?_) | (at_builtin; refine wpList_append_own _ rfl _ _ 30 rfl w.heap.size 5 bi (.int .u8 0) 1 1 Tryd.underlying30 bi1 bi2 bi3 bi4 rfl (by decide) _ _ _ rfl (hown.alloc _) ⟨wr.heap.size, 0, none⟩ 5 5 ((List.range 5).map fun j => Value.int .u8 ((pkb rho Z) (32 + 320 * r + 5 * m + j))) rfl ?c1i ?c2i ?c3i ?c4i ?c5i ?c6i ?_))
          case c1i => simp
          case c2i =>
            intro j u hj
            have hj5 : j < 5 := by
              have := (List.getElem?_eq_some_iff.1 hj).1
              simpa using this
            rw [Addr.add_mid, cell_of_row _ _ _ _ _ _ (heap_alloc_last wr _)]
            have h5 : j = 0 ∨ j = 1 ∨ j = 2 ∨ j = 3 ∨ j = 4 := by omega
            rcases h5 with rfl | rfl | rfl | rfl | rfl
            · simp at hj ⊢; rw [← hj, E0.out]; rfl
            · simp at hj ⊢; rw [← hj, E1.out]
            · simp at hj ⊢; rw [← hj, E2.out]
            · simp at hj ⊢; rw [← hj, E3.out]
            · simp at hj ⊢; rw [← hj, E4.out]
          case c3i => exact one_bl (fun j => (pkb rho Z) (32 + 320 * r + 5 * m + j)) 5
          case c4i => simp only [maxLen]; omega
          case c5i => omega
          case c6i => exact Nat.le_trans hs1 (by simp)
          intro v5 w5 hown5 hgr5 _
          rw [bl_5] at hown5
          have hlt5 := hown.lt
          have hB5 := (hbe.alloc hs1 _).grown hgr5 (Nat.le_trans hs1 (by simp)) (fun k hk => (hlt5 k hk).1)
          have h5' : Blk w5 G5 .u16 256 (Z r) 32 := by
            have h5a := h5.alloc (.cells #[.int .u8 (Z r (4 * m) % 256), .int .u8 (bits .or .u16 (Z r (4 * m) / 256) (Z r (4 * m + 1) * 4) % 256), .int .u8 (bits .or .u16 (Z r (4 * m + 1) / 64) (Z r (4 * m + 2) * 16) % 256), .int .u8 (bits .or .u16 (Z r (4 * m + 2) / 16) (Z r (4 * m + 3) * 64) % 256), .int .u8 (Z r (4 * m + 3) / 4)] 5)
            unfold Blk at *
            rw [hgr5.block G5 (Array.getElem?_eq_some_iff.1 h5a).1 (fun e => hne e.symm)]
            exact h5a
          go_wp2_with fail
          go_roundw
          case rel => exact ⟨m + 1, by omega, by go_num, by rw [show 32 + 320 * r + 5 * (m + 1) = 32 + 320 * r + 5 * m + 5 from by omega]; exact hown5, hB5, h5'⟩
          case measure => simp [intOf]; omega
        · obtain rfl : m = 64 := by omega
          go_wp2_with fail
          go_roundw
          case rel => exact ⟨r + 1, by omega, by go_num, by rw [show 32 + 320 * (r + 1) = 32 + 320 * r + 5 * 64 from by omega]; exact hown, hbe⟩
          case measure => simp [intOf]; omega
    · obtain rfl : r = K := by omega
      go_wp2_with fail
      go_ret
      exact ⟨⟨_, rfl, hown⟩, hbe⟩

end Go.Proofs.YteigpbeamdhjpaaDoor
