/-
  A public key read: the doors.
-/
import Derived.Test.YteigpbeamdhjpaaDoorPk3
import Derived.Test.YteigpbeamdhjpaaDoorUnpack3
namespace Go.Proofs.YteigpbeamdhjpaaDoor
open Go.RowKit

theorem mInfoW2 : ∃ i, Tryd.prog.info? 32 = some i ∧ i.zero = some (.agg (arr .u16 256 fun _ => 0)) ∧ i.size = 256 ∧ i.bytes ≤ 512 := by
  have h : (Tryd.prog.info? 32).map (fun i => (i.zero, i.size, i.bytes)) = some (some (.agg (Array.replicate 256 (.int .u16 0))), 256, 512) := by kernel_rfl
  rw [arr_rep] at h
  cases hi : Tryd.prog.info? 32 with
  | none => rw [hi] at h; cases h
  | some i =>
    rw [hi] at h
    simp only [Option.map_some, Option.some.injEq, Prod.mk.injEq] at h
    exact ⟨i, rfl, h.1, h.2.1, by omega⟩
set_option maxRecDepth 100000 in
set_option maxHeartbeats 1000000 in
theorem cloneO (x : Addr) (len cap : Nat) (b : Nat → Int) (w : World) (h1 : len ≤ 140737488355328) (hr : Rd .u8 w x len b) :
    Calls Tryd.prog 29 #[.slice (some x) len cap] w fun e w' => (∃ v, e = .returned v ∧ w'.ownsRow w.heap.size 5 1 v len (bl b len)) ∧ Below w.heap.size w w' := by
  obtain ⟨bi, bi1, bi2, bi3, bi4⟩ := byteInfo
  have hnil : (binOp .eql 30 (.slice (some x) len cap) (.slice none 0 0)).run Tryd.prog w = .ok (.bool false) w := run_eql_slice_nil w _ _ _ _ _ Tryd.underlying30
  go_enter Tryd.func29, Tryd.ntmps29
  go_wp2_with (first | (at_builtin; refine wpList_append_own _ rfl _ _ 30 rfl w.heap.size 5 bi (.int .u8 0) 1 1 Tryd.underlying30 bi1 bi2 bi3 bi4 rfl (by decide) _ _ _ rfl (ownsRow_empty w _ _ (Nat.le_refl _)) x len cap ((List.range len).map fun j => Value.int .u8 (b j)) rfl ?c1 ?c2 ?c3 ?c4 ?c5 ?c6 ?_))
  case c1 => simp
  case c2 => exact news_rd (hr.below ((Below.refl _ _).alloc (Nat.le_refl _) _))
  case c3 => exact one_bl b len
  case c4 => simp only [maxLen]; omega
  case c5 => omega
  case c6 => simp
  intro v' w1 hown hgr _
  go_wp2_with fail
  go_ret
  exact ⟨⟨_, rfl, by simpa [bl] using hown⟩, ((Below.refl _ _).alloc (Nat.le_refl _) _).grown hgr (by simp) (fun k hk => by cases hk; exact Nat.le_refl _)⟩
theorem owns_slice {w : World} {base : Nat} {e : TypeId} {n : Nat} {v : Value} {xs : List Value} (h : w.ownsRow base e 1 v n xs) : ∃ a c, v = .slice a n c := by
  obtain ⟨_, ⟨h1, h0⟩ | ⟨g, c, cur, hv, _⟩⟩ := h
  · subst h0; exact ⟨none, 0, h1⟩
  · exact ⟨_, c, hv⟩
set_option maxRecDepth 100000 in
set_option maxHeartbeats 1000000 in
theorem zzPkDecodeNo (s len c : Nat) (v : Option Addr) (w : World) (hs : s < 3) (hp : Par w) (he : GErr w 3) (hl : len ≤ 140737488355328) (hne : len ≠ 32 + 320 * kk s) :
    Calls Tryd.prog 31 #[.int .i64 (nm s), .slice v len c] w fun e w' => (∃ a n c t u, e = .returned (.tuple #[.slice none 0 0, .slice a n c, .iface t u])) ∧ Below w.heap.size w w' := by
  obtain ⟨hk0, hk1⟩ := kk_bd s hs
  go_enter Tryd.func31, Tryd.ntmps31
  go_wp2_with fail
  refine (zzSet s _ hs hp).mono ?_
  rintro e w1 ⟨rfl, hb1⟩
  have fp := (Blk.zeros8 w1 75 rfl).row .i64 (ps s)
  have hB2 := below_setRow (hb1.alloc hb1.size (.cells #[.int .i64 0, .int .i64 0, .int .i64 0, .int .i64 0, .int .i64 0, .int .i64 0, .int .i64 0, .int .i64 0] 75)) (g := w1.heap.size) hb1.size (arr .i64 8 (ps s))
  have hc0 := fp.cellv 0 (kk s : Int) (by omega) (kk_ps s hs)
  go_wp2_with (first | (with_reducible refine at_store 75 _ _ rfl ?_; refine wpList_store_arr iPar rfl _ _ rfl _ rfl rfl (Blk.zeros8 _ _ rfl) ?_) | (with_reducible refine at_make _ _ _ rfl ?_; refine wpList_make_arr Tryd.underlying23 mInfoW2 (by decide) (by decide) rfl _ _ rfl _ _ (kk s) (kk s) _ _ rfl rfl rfl rfl (Nat.le_refl _) (by omega) ?_) | (with_reducible refine at_load 75 _ rfl ?_; refine wpList_load_s Tryd.underlying75 rfl iPar rfl _ rfl _ rfl (fp.alloc _) ?_))
  refine (pkDecodeNo s len c _ _ v _ _ hs ((he.below hB2).below ((Below.refl _ _).alloc (Nat.le_refl _) _)) hl hne).mono ?_
  rintro e w3 ⟨⟨t, u, rfl⟩, hb3⟩
  go_wp2_with fail
  go_ret3
  exact ⟨⟨_, _, _, _, _, rfl⟩, belowChain (hB2.alloc hB2.size _) hb3 (Nat.le_trans hB2.size (by simp))⟩

set_option maxRecDepth 100000 in
set_option maxHeartbeats 1000000 in
theorem zzPkDecode (s g c : Nat) (b : Nat → Int) (w : World) (hs : s < 3) (hp : Par w) (hc : 32 + 320 * kk s ≤ c) (hcm : c ≤ maxLen) (hr : Rd .u8 w ⟨g, 0, none⟩ (32 + 320 * kk s) b) (hb : ∀ i, i < 32 + 320 * kk s → 0 ≤ b i ∧ b i < 256) :
    Calls Tryd.prog 31 #[.int .i64 (nm s), .slice (some ⟨g, 0, none⟩) (32 + 320 * kk s) c] w fun e w' => (∃ gt, e = .returned (.tuple #[.slice (some ⟨g, 0, none⟩) 32 c, .slice (some ⟨gt, 0, none⟩) (kk s) (kk s), .nilIface]) ∧ w.heap.size ≤ gt ∧ Blk w' gt .u16 (kk s * 256) (fun p => pkt b (p / 256) (p % 256)) 32) ∧ Below w.heap.size w w' := by
  obtain ⟨hk0, hk1⟩ := kk_bd s hs
  have hgl := hr.lt (by omega)
  go_enter Tryd.func31, Tryd.ntmps31
  go_wp2_with fail
  refine (zzSet s _ hs hp).mono ?_
  rintro e w1 ⟨rfl, hb1⟩
  have fp := (Blk.zeros8 w1 75 rfl).row .i64 (ps s)
  have hB2 := below_setRow (hb1.alloc hb1.size (.cells #[.int .i64 0, .int .i64 0, .int .i64 0, .int .i64 0, .int .i64 0, .int .i64 0, .int .i64 0, .int .i64 0] 75)) (g := w1.heap.size) hb1.size (arr .i64 8 (ps s))
  have hc0 := fp.cellv 0 (kk s : Int) (by omega) (kk_ps s hs)
  go_wp2_with (first | (with_reducible refine at_store 75 _ _ rfl ?_; refine wpList_store_arr iPar rfl _ _ rfl _ rfl rfl (Blk.zeros8 _ _ rfl) ?_) | (with_reducible refine at_make _ _ _ rfl ?_; refine wpList_make_arr Tryd.underlying23 mInfoW2 (by decide) (by decide) rfl _ _ rfl _ _ (kk s) (kk s) _ _ rfl rfl rfl rfl (Nat.le_refl _) (by omega) ?_) | (with_reducible refine at_load 75 _ rfl ?_; refine wpList_load_s Tryd.underlying75 rfl iPar rfl _ rfl _ rfl (fp.alloc _) ?_))
  have hs1 := hb1.size
  have hB3 := hB2.alloc hB2.size (.cells (arr .u16 (kk s * 256) fun _ => 0) 32)
  refine (pkDecodeW s g c (w1.heap.size + 1) (kk s) b _ hs (by have h : g < w.heap.size := hgl; omega) hc hcm (hr.below hB3) hb (Blk.new _ _ _ _ _ (by first | omega | (simp; done) | (simp; omega)))).mono ?_
  rintro e w3 ⟨rfl, hbt, hx⟩
  go_wp2_with fail
  go_ret3
  exact ⟨⟨_, rfl, by omega, hbt⟩, hB3.trans (hx.below (by simp; omega) (by omega))⟩

set_option maxRecDepth 100000 in
set_option maxHeartbeats 1000000 in
theorem cloneNil (w : World) : Calls Tryd.prog 29 #[.slice none 0 0] w fun e w' => e = .returned (.slice none 0 0) ∧ w = w' := by
  have hnil : (binOp .eql 30 (.slice none 0 0) (.slice none 0 0)).run Tryd.prog w = .ok (.bool true) w := run_eql_slice_nil w _ _ _ _ _ Tryd.underlying30
  go_enter Tryd.func29, Tryd.ntmps29
  go_wp2_with fail
  go_ret
  exact ⟨rfl, rfl⟩
set_option maxRecDepth 100000 in
set_option maxHeartbeats 1000000 in
theorem implPkDecodeNo (s len cap : Nat) (a : Option Addr) (zs : List Int) (w : World) (hs : s < 3) (hp : Par w) (he : GErr w 3) (hl : len ≤ 2147483647) (hne : len ≠ 32 + 320 * kk s) (h : IsRow .u8 w a len cap zs) :
    Calls Tryd.prog 16 #[.int .i64 (nm s), .slice a len cap] w fun e w' => (∃ a n c, e = .returned (.tuple #[.slice none 0 0, .slice a n c, .bool false])) ∧ Below w.heap.size w w' := by
  rcases h with ⟨rfl, rfl, rfl, rfl⟩ | ⟨x, rfl, hlc, hcm, hz, hcell, hwf⟩
  · go_enter Tryd.func16, Tryd.ntmps16
    go_wp2_with fail
    refine (Calls.mono (cloneNil _) ?_)
    rintro e w' ⟨rfl, rfl⟩
    go_wp2_with fail
    refine (zzPkDecodeNo s 0 0 none _ hs hp he (by omega) hne).mono ?_
    rintro e w3 ⟨⟨a3, n3, c3, t, u, rfl⟩, hb3⟩
    go_wp2_with fail
    refine wp_region_quiet_lit (by kernel_rfl) (by kernel_rfl) ?_
    repeat (go_big_quiet_step (fail))
    refine wpQuiet_nil ?_
    intro _ hw'
    obtain ⟨nq, hw''⟩ := hw'
    subst hw''
    go_wp2_with fail
    go_ret3
    exact ⟨⟨_, _, _, rfl⟩, hb3.trans ⟨rfl, rfl, rfl, Nat.le_refl _, fun _ _ => rfl⟩⟩
  · have hr : Rd .u8 w x len (fun j => zs.getD j 0) := fun j hj => hcell j (by omega)
    go_enter Tryd.func16, Tryd.ntmps16
    go_wp2_with fail
    refine (cloneO x len cap _ _ (by omega) hr).mono ?_
    rintro e w1 ⟨⟨v, rfl, hown⟩, hb1⟩
    obtain ⟨a1, c1, rfl⟩ := owns_slice hown
    go_wp2_with fail
    refine (zzPkDecodeNo s len c1 a1 _ hs (hp.below hb1) (he.below hb1) (by omega) hne).mono ?_
    rintro e w3 ⟨⟨a3, n3, c3, t, u, rfl⟩, hb3⟩
    go_wp2_with fail
    refine wp_region_quiet_lit (by kernel_rfl) (by kernel_rfl) ?_
    repeat (go_big_quiet_step (fail))
    refine wpQuiet_nil ?_
    intro _ hw'
    obtain ⟨nq, hw''⟩ := hw'
    subst hw''
    go_wp2_with fail
    go_ret3
    exact ⟨⟨_, _, _, rfl⟩, (belowChain hb1 hb3 hb1.size).trans ⟨rfl, rfl, rfl, Nat.le_refl _, fun _ _ => rfl⟩⟩
set_option maxRecDepth 100000 in
set_option maxHeartbeats 1000000 in
theorem implPkDecode (s cap : Nat) (x : Addr) (b : Nat → Int) (w : World) (hs : s < 3) (hp : Par w) (hr : Rd .u8 w x (32 + 320 * kk s) b) (hb : ∀ i, i < 32 + 320 * kk s → 0 ≤ b i ∧ b i < 256) :
    Calls Tryd.prog 16 #[.int .i64 (nm s), .slice (some x) (32 + 320 * kk s) cap] w fun e w' => (∃ g gt c, e = .returned (.tuple #[.slice (some ⟨g, 0, none⟩) 32 c, .slice (some ⟨gt, 0, none⟩) (kk s) (kk s), .bool true]) ∧ 32 ≤ c ∧ w.heap.size ≤ g ∧ w.heap.size ≤ gt ∧ Rd .u8 w' ⟨g, 0, none⟩ (32 + 320 * kk s) b ∧ Blk w' gt .u16 (kk s * 256) (fun p => pkt b (p / 256) (p % 256)) 32) ∧ Below w.heap.size w w' := by
  obtain ⟨hk0, hk1⟩ := kk_bd s hs
  go_enter Tryd.func16, Tryd.ntmps16
  go_wp2_with fail
  refine (cloneB x (32 + 320 * kk s) cap b _ (by omega) (by omega) hr).mono ?_
  rintro e w1 ⟨⟨g, c, rfl, hg, hc, hcm, hrd⟩, hb1⟩
  go_wp2_with fail
  refine (zzPkDecode s g c b _ hs (hp.below hb1) hc hcm hrd hb).mono ?_
  rintro e w3 ⟨⟨gt, rfl, hgt, hbt⟩, hb3⟩
  have hrd := hrd.below hb3
  have hs1 := hb1.size
  go_wp2_with fail
  refine wp_region_quiet_lit (by kernel_rfl) (by kernel_rfl) ?_
  repeat (go_big_quiet_step (fail))
  refine wpQuiet_nil ?_
  intro _ hw'
  obtain ⟨nq, hw''⟩ := hw'
  subst hw''
  go_wp2_with fail
  go_ret3
  exact ⟨⟨_, _, _, rfl, by omega, hg, by omega, hrd, hbt⟩, (belowChain hb1 hb3 hb1.size).trans ⟨rfl, rfl, rfl, Nat.le_refl _, fun _ _ => rfl⟩⟩

end Go.Proofs.YteigpbeamdhjpaaDoor
