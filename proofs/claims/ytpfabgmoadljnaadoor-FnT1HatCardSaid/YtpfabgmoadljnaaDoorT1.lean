/-
  The transforms of several polynomials of numbers of ten bits.
-/
import Derived.Test.YtpfabgmoadljnaaDoorMat3
import Derived.Test.YtpfabgmoadljnaaDoorNtt4
import Derived.Test.YtpfabgmoadljnaaDoorCell
namespace Go.Proofs.YtpfabgmoadljnaaDoor
open Go.RowKit

/-- The numbers of row r, in Montgomery's form. -/
def t1v (Z : Nat → Nat → Int) (r j : Nat) : Int := Z r j * 8192 * 4193792 % 8380417
theorem t1v_bd (Z : Nat → Nat → Int) (r j : Nat) : 0 ≤ t1v Z r j ∧ t1v Z r j < 8380417 := by unfold t1v; omega
theorem GArr.belowAt {w w' : World} {g n B : Nat} {k : IntKind} {z : Nat → Int} (h : GArr w g k n z) (hb : Below B w w') (hl : g < B) : GArr w' g k n z := by
  obtain ⟨t, fr, h⟩ := h
  exact ⟨t, fr, by rw [hb.block g hl, h]⟩
/-- What is told of rows done up to r. -/
def t1f (Z : Nat → Nat → Int) (p : Nat) : Int := nttF (t1v Z (p / 256)) (p % 256)

set_option maxRecDepth 100000 in
set_option maxHeartbeats 1000000 in
theorem computeT1 (g n c c' : Nat) (a : Option Addr) (Z : Nat → Nat → Int) (B : Nat) (w : World) (hg : GArr w 0 .u32 256 zetaV) (hn : n ≤ 8) (hB : B ≤ w.heap.size) (hBg : B ≤ g) (hzB : 0 < B) (hgn : 0 < n → a ≠ some ⟨g, 0, none⟩) (hz : ∀ r, r < n → ∀ j, j < 256 → 0 ≤ Z r j ∧ Z r j < 1024) (hm : MatV .u16 B w a n Z) (hb : Blk w g .u32 (n * 256) (fun _ => 0) 48) :
    Calls Tryd.prog 42 #[.slice (some ⟨g, 0, none⟩) n c, .slice a n c'] w fun e w' => e = .returned (.tuple #[]) ∧ Blk w' g .u32 (n * 256) (t1f Z) 48 ∧ Below B w w' := by
  have HZ := Lib.hid hz; clear hz
  have HG := Lib.hid hg; clear hg
  have HM := Lib.hid hm; clear hm
  go_enter Tryd.func42, Tryd.ntmps42
  go_wp2_with fail
  go_loopw [11] (fun t wr => ∃ r : Nat, r ≤ n ∧ t = .int .i64 (r : Int) ∧ Blk wr g .u32 (n * 256) (fun p => if p < r * 256 then t1f Z p else 0) 48 ∧ Below B w wr ∧ Ex g w wr) (fun t _ => n - (intOf t).toNat)
  case atStart => exact ⟨0, by omega, rfl, hb.congr (fun p _ => by rw [if_neg (by omega)]), Below.refl _ _, Ex.refl _ _⟩
  case round =>
    obtain ⟨r, hr, rfl, h1, hbe, hx⟩ := hrel
    by_cases hlt : r < n
    · obtain ⟨g', rfl, hg', hmi⟩ : ∃ g', a = some ⟨g', 0, none⟩ ∧ B ≤ g' ∧ MatI .u16 w ⟨g', 0, none⟩ n Z := by
        rcases HM.out with h0 | h
        · omega
        · exact h
      have hne : g' ≠ g := fun e => hgn (by omega) (by rw [e])
      have HMI := Lib.hid hmi; clear hmi
      have hx0 := hx.size
      obtain ⟨G5, hG5⟩ : ∃ G5, G5 = wr.heap.size := ⟨_, rfl⟩
      have hw5 : w.heap.size ≤ G5 := by omega
      have hgl := h1.lt
      have hg5 : B ≤ G5 := by omega
      go_wp2_with fail
      have h5 := Blk.new (g := G5) wr .u32 256 (fun _ => 0) 50 hG5
      have h1 := h1.alloc (.cells (arr .u32 256 (fun _ => 0)) 50)
      have hbe := hbe.alloc (Nat.le_trans hB hx0) (.cells (arr .u32 256 (fun _ => 0)) 50)
      have hx := hx.bel ((Below.refl w.heap.size wr).alloc hx0 (.cells (arr .u32 256 (fun _ => 0)) 50))
      have hgG : g ≠ G5 := by omega
      rw [← hG5]
      have HG5 := Lib.hid hG5; clear hG5
      go_loopw [14] (fun t ws => ∃ J : Nat, J ≤ 256 ∧ t = .int .i64 (J : Int) ∧ Blk ws G5 .u32 256 (fun j => if j < J then t1v Z r j else 0) 50 ∧ Blk ws g .u32 (n * 256) (fun p => if p < r * 256 then t1f Z p else 0) 48 ∧ Below B w ws ∧ Ex g w ws) (fun t _ => 256 - (intOf t).toNat)
      case atStart => exact ⟨0, by omega, rfl, h5.congr (fun p _ => by rw [if_neg (by omega)]), h1, hbe, hx⟩
      case round =>
        clear h1 h5 hbe hx hx0
        obtain ⟨J, hJ, rfl, h5, h1, hbe, hx⟩ := hrel
        have hs0 := hx.size
        have hsz := Nat.le_trans hB hs0
        by_cases hJl : J < 256
        · have hc := (HMI.out.ex hx hne).at r J hlt hJl
          obtain ⟨hz0, hz1⟩ := HZ.out r hlt J hJl
          obtain ⟨z, hzz⟩ : ∃ z, z = Z r J := ⟨_, rfl⟩
          rw [← hzz] at hc hz0 hz1
          have HZZ := Lib.hid hzz; clear hzz
          go_wp2_with (first | (with_reducible refine at_store 46 _ _ rfl ?_; refine wpList_store_int Tryd.sizeOf46 rfl _ _ rfl _ _ rfl _ rfl h5 (by omega) ?_; intro wn hn he; replace hbe := hbe.trans (he.below hsz hg5); replace hx := hx.bel (he.below hs0 hw5); replace h1 := he.blk h1 (by omega); clear h5; have h5 := hn; clear hn he) | (go_at_call 48; refine (toMont _ _ (by omega) (by omega)).mono ?_; rintro e w' ⟨rfl, rfl⟩))
          go_roundw
          case rel => exact ⟨J + 1, by omega, by go_num, h5.congr (fun p _ => by
              by_cases e : p = J
              · subst e; rw [if_pos rfl, if_pos (by omega), t1v, ← HZZ.out]
              · rw [if_neg e]; by_cases e2 : p < J
                · rw [if_pos e2, if_pos (by omega)]
                · rw [if_neg e2, if_neg (by omega)]), h1, hbe, hx⟩
          case measure => simp [intOf]; omega
        · obtain rfl : J = 256 := by omega
          have h5 : Blk _ G5 .u32 256 (t1v Z r) 50 := h5.congr fun p hp => if_pos hp
          go_wp2_with (first | (with_reducible refine at_load 50 _ rfl ?_; refine wpList_load_arr Tryd.underlying50 iR rfl _ rfl _ rfl (h5) ?_))
          refine (nttW (t1v Z r) _ (fun i _ => t1v_bd Z r i) (HG.out.belowAt hbe hzB)).mono ?_
          rintro e w5 ⟨rfl, hb5⟩
          have h1 := h1.below hb5
          have hbe := hbe.trans (hb5.mono hsz)
          have hx := hx.bel (hb5.mono hs0)
          have hs0 := hx.size
          clear hb5 h5
          go_wp2_with (first | (with_reducible refine at_store 48 _ _ rfl ?_; refine wpList_store_at iN rfl _ _ rfl g (r * 256) rfl rfl h1 (by omega) ?_; intro w6 hn6 he6))
          go_roundw
          case rel => exact ⟨r + 1, by omega, by go_num, hn6.congr (fun p _ => by
              by_cases e : r * 256 ≤ p ∧ p < r * 256 + 256
              · rw [if_pos e, if_pos (by omega), t1f, show p / 256 = r from by omega, show p % 256 = p - r * 256 from by omega]
              · rw [if_neg e]; by_cases e2 : p < r * 256
                · rw [if_pos e2, if_pos (by omega)]
                · rw [if_neg e2, if_neg (by omega)]), hbe.trans (he6.below (Nat.le_trans hB hs0) hBg), hx.trans he6⟩
          case measure => simp [intOf]; omega
    · obtain rfl : r = n := by omega
      go_wp2_with fail
      go_end0
      exact ⟨rfl, h1.congr (fun p hp => if_pos hp), hbe⟩

theorem mInfoU : ∃ i zz, Tryd.prog.info? 23 = some i ∧ i.zero = some zz ∧ i.size = 256 ∧ i.bytes = 1024 ∧ zz.cells.size = 256 := by
  have h : (Tryd.prog.info? 23).map (fun i => (i.zero.map (·.cells.size), i.size, i.bytes)) = some (some 256, 256, 1024) := by kernel_rfl
  cases hi : Tryd.prog.info? 23 with
  | none => rw [hi] at h; cases h
  | some i =>
    rw [hi] at h
    simp only [Option.map_some, Option.some.injEq, Prod.mk.injEq] at h
    obtain ⟨h1, h2, h3⟩ := h
    cases hz : i.zero with
    | none => rw [hz] at h1; cases h1
    | some z =>
      rw [hz] at h1
      simp only [Option.map_some, Option.some.injEq] at h1
      exact ⟨i, z, rfl, hz, h2, h3, h1⟩
theorem mInfoN : ∃ i, Tryd.prog.info? 48 = some i ∧ i.zero = some (.agg (arr .u32 256 fun _ => 0)) ∧ i.size = 256 ∧ i.bytes ≤ 1024 := by
  have h : (Tryd.prog.info? 48).map (fun i => (i.zero, i.size, i.bytes)) = some (some (.agg (Array.replicate 256 (.int .u32 0))), 256, 1024) := by kernel_rfl
  rw [arr_rep] at h
  cases hi : Tryd.prog.info? 48 with
  | none => rw [hi] at h; cases h
  | some i =>
    rw [hi] at h
    simp only [Option.map_some, Option.some.injEq, Prod.mk.injEq] at h
    exact ⟨i, rfl, h.1, h.2.1, by omega⟩
theorem range_rows (f : Nat → Value) (r : Nat) : (List.range (r * 256)).map f ++ (List.range 256).map (fun j => f (r * 256 + j)) = (List.range ((r + 1) * 256)).map f := by
  rw [Nat.succ_mul, List.range_add, List.map_append, List.map_map]
  rfl
theorem news_row (w : World) (k : IntKind) (z : Nat → Int) (t : TypeId) : ∀ j u, ((List.range 256).map fun i => Value.int k (z i))[j]? = some u → (w.alloc (.cells (arr k 256 z) t)).cell? ((⟨w.heap.size, 0, none⟩ : Addr).add j) = some u := by
  intro j u hj
  have hjl : j < 256 := by
    have := (List.getElem?_eq_some_iff.1 hj).1
    simpa using this
  have e1 : (Addr.add ⟨w.heap.size, 0, none⟩ j) = ⟨w.heap.size, j, none⟩ := by
    unfold Addr.add
    split
    · rename_i e; rw [e]
    · simp
  rw [e1, (Blk.new w k 256 z t rfl).cell hjl]
  simpa [hjl] using hj
set_option maxRecDepth 100000 in
set_option maxHeartbeats 1000000 in
theorem implTransforms (g n c : Nat) (F : Nat → Int) (w : World) (hn : n ≤ 8) (hb : Blk w g .u32 (n * 256) F 48) :
    Calls Tryd.prog 32 #[.slice (some ⟨g, 0, none⟩) n c] w (MatPost .u32 n (fun r j => F (r * 256 + j)) w) := by
  obtain ⟨i, z, hi, hz0, hz1, hz2, hz3⟩ := mInfoU
  have hu1 : ∃ i zz, Tryd.prog.info? 23 = some i ∧ i.zero = some zz ∧ i.size = 256 ∧ zz.cells.size = 256 := ⟨i, z, hi, hz0, hz1, hz3⟩
  go_enter Tryd.func32, Tryd.ntmps32
  go_wp2_with fail
  go_loopw [3, 8] (fun v t wr => ∃ r : Nat, r ≤ n ∧ t = .int .i64 (r : Int) ∧ wr.ownsRow w.heap.size 23 256 v r ((List.range (r * 256)).map fun p => Value.int .u32 (F p)) ∧ Below w.heap.size w wr) (fun _ t _ => n - (intOf t).toNat)
  case atStart => exact ⟨0, by omega, rfl, World.ownsRow_nil _ _ _ _, Below.refl _ _⟩
  case round =>
    obtain ⟨r, hr, rfl, hown, hbe⟩ := hrel
    by_cases hlt : r < n
    · have hb1 := hb.below hbe
      have hrow := Lib.hid (show ∀ j, j < 256 → wr.cell? ((⟨g, r * 256, none⟩ : Addr).add j) = some (.int .u32 (F (r * 256 + j))) from fun j hj => by
        rw [Addr.add_mid]
        exact hb1.cell (by omega))
      have hs0 := hbe.size
      go_wp2_with (first | (with_reducible refine at_loadx 48 10 rfl ?_; refine wpList_load_at Tryd.underlying48 iN rfl _ rfl ⟨g, r * 256, none⟩ rfl hrow.out ?_) | (with_reducible refine at_storex 48 5 _ rfl ?_; refine wpList_store_arr iN rfl _ _ rfl _ rfl rfl (Blk.new wr .u32 256 (fun _ => 0) 48 rfl) ?_) | (with_reducible refine at_loadx 48 5 rfl ?_; refine wpList_load_arr Tryd.underlying48 iN rfl _ rfl _ rfl ((Blk.new wr .u32 256 (fun _ => 0) 48 rfl).row .u32 (fun j => F (r * 256 + j))) ?_))
      have hB2 := below_setRow (hbe.alloc hs0 (.cells (arr .u32 256 (fun _ => 0)) 48)) (g := wr.heap.size) hs0 (arr .u32 256 (fun j => F (r * 256 + j)))
      refine (implOfTransform _ _).mono ?_
      rintro e w3 ⟨rfl, hb3⟩
      have hstep := (below_setRow ((Below.refl wr.heap.size wr).alloc (Nat.le_refl _) (.cells (arr .u32 256 (fun _ => 0)) 48)) (g := wr.heap.size) (Nat.le_refl _) (arr .u32 256 (fun j => F (r * 256 + j))))
      have hstep := belowChain hstep hb3 hstep.size
      have hown := ownsRow_below hown hstep
      have hB3 := belowChain hbe hstep hs0
      have hs3 := hB3.size
      clear hb3 hstep hB2
      go_wp2_with (first | (with_reducible refine at_bs _ _ _ rfl ?_; refine wpList_build1 (k := .u32) (n := 256) (z := fun j => F (r * 256 + j)) Tryd.underlying39 hu1 (by decide) (by decide) rfl _ rfl rfl ?_) | (at_builtin; refine wpList_append_own _ rfl _ _ 39 rfl w.heap.size 23 i z 256 1024 Tryd.underlying39 hi hz0 hz1 hz2 hz3 (by decide) _ _ _ rfl (hown.alloc _) ⟨w3.heap.size, 0, none⟩ 1 1 ((List.range 256).map fun j => Value.int .u32 (F (r * 256 + j))) rfl ?c1 ?c2 ?c3 ?c4 ?c5 ?c6 ?_))
      case c1 => simp
      case c2 => exact news_row w3 .u32 (fun j => F (r * 256 + j)) _
      case c3 =>
        intro u hu
        obtain ⟨j, _, rfl⟩ := List.mem_map.1 hu
        rfl
      case c4 => simp only [maxLen]; omega
      case c5 => omega
      case c6 => exact Nat.le_trans hs3 (by simp)
      intro v' w4 hown4 hgr4 _
      rw [range_rows] at hown4
      have hlt4 := (hown.alloc (.cells (arr .u32 256 (fun j => F (r * 256 + j))) 23)).lt
      have hB4 := (hB3.alloc hs3 (.cells (arr .u32 256 (fun j => F (r * 256 + j))) 23)).grown hgr4 (Nat.le_trans hs3 (by simp)) (fun k hk => (hlt4 k hk).1)
      go_wp2_with fail
      go_roundw
      case rel => exact ⟨r + 1, by omega, by go_num, hown4, hB4⟩
      case measure => simp [intOf]; omega
    · obtain rfl : r = n := by omega
      obtain ⟨a, c2, rfl, hv⟩ := matV_of_owns (k := .u32) (Z := fun r j => F (r * 256 + j)) (by
        have e : (List.range (r * 256)).map (fun p => Value.int .u32 (F p)) = (List.range (r * 256)).map fun p => Value.int .u32 (F (p / 256 * 256 + p % 256)) := List.map_congr_left fun p _ => by rw [show p / 256 * 256 + p % 256 = p from by omega]
        rw [e] at hown
        exact hown)
      go_wp2_with fail
      go_ret
      exact ⟨⟨a, c2, rfl, hv⟩, hbe⟩

set_option maxRecDepth 100000 in
set_option maxHeartbeats 1000000 in
theorem zzT1 (n c' : Nat) (a : Option Addr) (Z : Nat → Nat → Int) (B : Nat) (w : World) (hg : GArr w 0 .u32 256 zetaV) (hn : n ≤ 8) (hz : ∀ r, r < n → ∀ j, j < 256 → 0 ≤ Z r j ∧ Z r j < 1024) (hm : MatV .u16 B w a n Z) (hB : B ≤ w.heap.size) (hzB : 0 < B) :
    Calls Tryd.prog 33 #[.slice a n c'] w fun e w' => ∃ g c, e = .returned (.slice (some ⟨g, 0, none⟩) n c) ∧ Blk w' g .u32 (n * 256) (t1f Z) 48 ∧ Below B w w' := by
  have HG := Lib.hid hg; clear hg
  have HM := Lib.hid hm; clear hm
  go_enter Tryd.func33, Tryd.ntmps33
  go_wp2_with (first | (with_reducible refine at_make _ _ _ rfl ?_; refine wpList_make_arr Tryd.underlying58 mInfoN (by decide) (by decide) rfl _ _ rfl _ _ n n _ _ rfl rfl rfl rfl (Nat.le_refl _) (by omega) ?_))
  have hm2 : MatV .u16 B (w.alloc (.cells (arr .u32 (n * 256) fun _ => 0) 48)) a n Z := by
    rcases HM.out with h0 | ⟨g, h1, h2, h3⟩
    · exact .inl h0
    · exact .inr ⟨g, h1, h2, h3.below ((Below.refl _ _).alloc (Nat.le_refl _) _)⟩
  have hne : 0 < n → a ≠ some ⟨w.heap.size, 0, none⟩ := by
    intro h0 e
    rcases HM.out with h1 | ⟨g, h1, h2, h3⟩
    · omega
    · rw [e] at h1
      simp at h1
      subst h1
      have := block_lt_of_cell (h3.at 0 0 h0 (by decide))
      simp at this
  refine (computeT1 w.heap.size n n c' a Z B _ (HG.out.alloc _) hn (by first | omega | (simp; done) | (simp; omega)) hB hzB hne hz hm2 (Blk.new _ _ _ _ _ rfl)).mono ?_
  rintro e w1 ⟨rfl, hb1, hbe⟩
  go_wp2_with fail
  go_ret
  exact ⟨_, _, rfl, hb1, ((Below.refl B w).alloc hB _).trans hbe⟩
set_option maxRecDepth 100000 in
set_option maxHeartbeats 1000000 in
theorem implT1 (a : Option Addr) (n cap : Nat) (Z : Nat → Nat → Int) (w : World) (hg : GArr w 0 .u32 256 zetaV) (hn : n ≤ 8) (hz : ∀ r, r < n → ∀ j, j < 256 → 0 ≤ Z r j ∧ Z r j < 1024) (hm : IsMat .u16 w a n cap Z) :
    Calls Tryd.prog 18 #[.slice a n cap] w (MatPost .u32 n (fun r j => t1f Z (r * 256 + j)) w) := by
  have hzl := hg.lt
  go_enter Tryd.func18, Tryd.ntmps18
  go_wp2_with fail
  refine (cloneW a n cap Z _ (by omega) hm).mono ?_
  rintro e w1 ⟨⟨a', c, rfl, hv⟩, hb1⟩
  go_wp2_with fail
  refine (zzT1 n c a' Z w.heap.size _ (hg.below hb1) hn hz hv hb1.size hzl).mono ?_
  rintro e w2 ⟨g, c2, rfl, hb, hb2⟩
  have hB2 := hb1.trans hb2
  go_wp2_with fail
  refine (implTransforms g n c2 (t1f Z) _ hn hb).mono ?_
  rintro e w3 ⟨⟨a3, c3, rfl, hv3⟩, hb3⟩
  go_wp2_with fail
  go_ret
  exact ⟨⟨_, _, rfl, hv3.imp id fun ⟨g, h1, h2, h3⟩ => ⟨g, h1, Nat.le_trans hB2.size h2, h3⟩⟩, belowChain hB2 hb3 hB2.size⟩

end Go.Proofs.YtpfabgmoadljnaaDoor
