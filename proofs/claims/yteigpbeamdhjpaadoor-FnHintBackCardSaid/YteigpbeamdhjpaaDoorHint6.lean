/-
  Hints read: the doors.
-/
import Derived.Test.YteigpbeamdhjpaaDoorHint5
import Derived.Test.YteigpbeamdhjpaaDoorPk4
namespace Go.Proofs.YteigpbeamdhjpaaDoor
open Go.RowKit

theorem mInfoB82 : ∃ i, Tryd.prog.info? 67 = some i ∧ i.zero = some (.agg (arr .u8 256 fun _ => 0)) ∧ i.size = 256 ∧ i.bytes ≤ 256 := by
  have h : (Tryd.prog.info? 67).map (fun i => (i.zero, i.size, i.bytes)) = some (some (.agg (Array.replicate 256 (.int .u8 0))), 256, 256) := by kernel_rfl
  rw [arr_rep] at h
  cases hi : Tryd.prog.info? 67 with
  | none => rw [hi] at h; cases h
  | some i =>
    rw [hi] at h
    simp only [Option.map_some, Option.some.injEq, Prod.mk.injEq] at h
    exact ⟨i, rfl, h.1, h.2.1, by omega⟩
/-- What the door leaves behind. -/
def ZPost (s : Nat) (b : Nat → Int) (no yes : Value) (w : World) (e : Ending) (w' : World) : Prop := ((okA b (om s) (kk s) ∧ ∃ gh, e = .returned (.tuple #[.slice (some ⟨gh, 0, none⟩) (kk s) (kk s), yes]) ∧ w.heap.size ≤ gh ∧ Blk w' gh .u8 (kk s * 256) (drow b (om s) (kk s)) 67) ∨ (¬ okA b (om s) (kk s) ∧ e = .returned (.tuple #[.slice none 0 0, no]))) ∧ Below w.heap.size w w'
set_option maxRecDepth 100000 in
set_option maxHeartbeats 1000000 in
theorem zzHintDecode (s g c : Nat) (b : Nat → Int) (w : World) (hs : s < 3) (hp : Par w) (he4 : GErr w 4) (he5 : GErr w 5) (he6 : GErr w 6) (hr : Rd .u8 w ⟨g, 0, none⟩ (om s + kk s) b) (hb : ∀ i, i < om s + kk s → 0 ≤ b i ∧ b i < 256) :
    Calls Tryd.prog 35 #[.int .i64 (nm s), .slice (some ⟨g, 0, none⟩) (om s + kk s) c] w fun e w' => ∃ t u, ZPost s b (.iface t u) .nilIface w e w' := by
  unfold ZPost
  obtain ⟨hk0, hk1⟩ := kk_bd s hs
  have hgl := hr.lt (by omega)
  go_enter Tryd.func35, Tryd.ntmps35
  go_wp2_with fail
  refine (zzSet s _ hs hp).mono ?_
  rintro e w1 ⟨rfl, hb1⟩
  have fp := (Blk.zeros8 w1 75 rfl).row .i64 (ps s)
  have hB2 := below_setRow (hb1.alloc hb1.size (.cells #[.int .i64 0, .int .i64 0, .int .i64 0, .int .i64 0, .int .i64 0, .int .i64 0, .int .i64 0, .int .i64 0] 75)) (g := w1.heap.size) hb1.size (arr .i64 8 (ps s))
  have hc0 := fp.cellv 0 (kk s : Int) (by omega) (kk_ps s hs)
  go_wp2_with (first | (with_reducible refine at_store 75 _ _ rfl ?_; refine wpList_store_arr iPar rfl _ _ rfl _ rfl rfl (Blk.zeros8 _ _ rfl) ?_) | (with_reducible refine at_make _ _ _ rfl ?_; refine wpList_make_arr Tryd.underlying47 mInfoB82 (by decide) (by decide) rfl _ _ rfl _ _ (kk s) (kk s) _ _ rfl rfl rfl rfl (Nat.le_refl _) (by omega) ?_) | (with_reducible refine at_load 75 _ rfl ?_; refine wpList_load_s Tryd.underlying75 rfl iPar rfl _ rfl _ rfl (fp.alloc _) ?_))
  have hs1 := hb1.size
  have hB3 := hB2.alloc hB2.size (.cells (arr .u8 (kk s * 256) fun _ => 0) 67)
  refine (hintDecodeW s (w1.heap.size + 1) c (kk s) ⟨g, 0, none⟩ b _ hs (he4.below hB3) (he5.below hB3) (he6.below hB3) (by have h : g < w.heap.size := hgl; show g ≠ _; omega) (hr.below hB3) hb (Blk.new _ _ _ _ _ (by first | omega | (simp; done) | (simp; omega)))).mono ?_
  rintro e w3 ⟨h, hx⟩
  have hB4 := hB3.trans (hx.below (by simp; omega) (by omega))
  rcases h with ⟨hok, rfl, hbt⟩ | ⟨hok, t, u, rfl⟩
  · go_wp2_with fail
    go_ret2
    exact ⟨0, .nilIface, .inl ⟨hok, _, rfl, by omega, hbt⟩, hB4⟩
  · go_wp2_with fail
    go_ret2
    exact ⟨t, u, .inr ⟨hok, rfl⟩, hB4⟩
set_option maxRecDepth 100000 in
set_option maxHeartbeats 1000000 in
theorem implHintDecode (s cap : Nat) (x : Addr) (b : Nat → Int) (w : World) (hs : s < 3) (hp : Par w) (he4 : GErr w 4) (he5 : GErr w 5) (he6 : GErr w 6) (hr : Rd .u8 w x (om s + kk s) b) (hb : ∀ i, i < om s + kk s → 0 ≤ b i ∧ b i < 256) :
    Calls Tryd.prog 22 #[.int .i64 (nm s), .slice (some x) (om s + kk s) cap] w (ZPost s b (.bool false) (.bool true) w) := by
  unfold ZPost
  obtain ⟨hk0, hk1⟩ := kk_bd s hs
  obtain ⟨ho0, ho1⟩ := om_bd s hs
  go_enter Tryd.func22, Tryd.ntmps22
  go_wp2_with fail
  refine (cloneB x (om s + kk s) cap b _ (by omega) (by omega) hr).mono ?_
  rintro e w1 ⟨⟨g, c, rfl, hg, hc, hcm, hrd⟩, hb1⟩
  go_wp2_with fail
  refine (zzHintDecode s g c b _ hs (hp.below hb1) (he4.below hb1) (he5.below hb1) (he6.below hb1) hrd hb).mono ?_
  rintro e w3 ⟨t, u, h, hb3⟩
  have hs1 := hb1.size
  have hB := belowChain hb1 hb3 hs1
  rcases h with ⟨hok, gh, rfl, hgh, hbt⟩ | ⟨hok, rfl⟩
  · go_wp2_with fail
    refine wp_region_quiet_lit (by kernel_rfl) (by kernel_rfl) ?_
    repeat (go_big_quiet_step (fail))
    refine wpQuiet_nil ?_
    intro _ hw'
    obtain ⟨nq, hw''⟩ := hw'
    subst hw''
    go_wp2_with fail
    go_ret2
    exact ⟨.inl ⟨hok, _, rfl, by omega, hbt.drewN nq⟩, hB.trans ⟨rfl, rfl, rfl, Nat.le_refl _, fun _ _ => rfl⟩⟩
  · go_wp2_with fail
    refine wp_region_quiet_lit (by kernel_rfl) (by kernel_rfl) ?_
    repeat (go_big_quiet_step (fail))
    refine wpQuiet_nil ?_
    intro _ hw'
    obtain ⟨nq, hw''⟩ := hw'
    subst hw''
    go_wp2_with fail
    go_ret2
    exact ⟨.inr ⟨hok, rfl⟩, hB.trans ⟨rfl, rfl, rfl, Nat.le_refl _, fun _ _ => rfl⟩⟩

end Go.Proofs.YteigpbeamdhjpaaDoor
