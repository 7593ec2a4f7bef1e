/-
  A signature read: the package's door.
-/
import Derived.Test.YtanfpnidlgejhaaDoorSig5
namespace Go.Proofs.YtanfpnidlgejhaaDoor
open Go.RowKit

theorem matI_zval {s gz : Nat} {b : Nat → Int} {w : World} {t : TypeId} (h : Blk w gz .u32 (ll s * 256) (zval s b) t) : MatI .u32 w ⟨gz, 0, none⟩ (ll s) (zrow s b) := fun r hr j hj => by
  rw [Addr.add_at, Nat.zero_add, h.cell (by omega)]
  unfold zval
  rw [show (r * 256 + j) / 256 = r from by omega, show (r * 256 + j) % 256 = j from by omega]
theorem matI_zero {n gz : Nat} {w : World} {t : TypeId} (h : Blk w gz .u32 (n * 256) (fun _ => 0) t) : MatI .u32 w ⟨gz, 0, none⟩ n (fun _ _ => 0) := fun r hr j hj => by
  rw [Addr.add_at, Nat.zero_add, h.cell (by omega)]
/-- What reading a signature leaves behind. -/
def ISPost (s : Nat) (b : Nat → Int) (w : World) (e : Ending) (w' : World) : Prop := ((okA (hby s b) (om s) (kk s) ∧ ∃ g c gz cz gh, e = .returned (.tuple #[.slice (some ⟨g, 0, none⟩) (cc s) c, .slice (some ⟨gz, 0, none⟩) (ll s) cz, .slice (some ⟨gh, 0, none⟩) (kk s) (kk s), .bool true]) ∧ Rd .u8 w' ⟨g, 0, none⟩ (cc s) b ∧ MatI .u32 w' ⟨gz, 0, none⟩ (ll s) (zrow s b) ∧ Blk w' gh .u8 (kk s * 256) (drow (hby s b) (om s) (kk s)) 66) ∨ (¬ okA (hby s b) (om s) (kk s) ∧ ∃ v1 v2 v3, e = .returned (.tuple #[v1, v2, v3, .bool false]))) ∧ Below w.heap.size w w'

theorem matV_base {k : IntKind} {B B' : Nat} {w : World} {a : Option Addr} {n : Nat} {Z : Nat → Nat → Int} (h : MatV k B' w a n Z) (hB : B ≤ B') : MatV k B w a n Z := by
  rcases h with h | ⟨g, h1, h2, h3⟩
  · exact .inl h
  · exact .inr ⟨g, h1, Nat.le_trans hB h2, h3⟩

set_option maxRecDepth 100000 in
set_option maxHeartbeats 1000000 in
theorem implSigDecodeNo (s len cap : Nat) (a : Option Addr) (zs : List Int) (w : World) (hs : s < 3) (hp : Par w) (he3 : GErr w 3) (hl : len ≤ 2147483647) (hne : len ≠ sgz s) (h : IsRow .u8 w a len cap zs) :
    Calls Tryd.prog 7 #[.int .i64 (nm s), .slice a len cap] w fun e w' => (∃ v1 v2 v3, e = .returned (.tuple #[v1, v2, v3, .bool false])) ∧ Below w.heap.size w w' := by
  obtain ⟨hl0, hl1⟩ := ll_bd s hs
  obtain ⟨hk0, hk1⟩ := kk_bd s hs
  obtain ⟨hc0, hc1⟩ := cc_bd s hs
  rcases h with ⟨rfl, rfl, rfl, rfl⟩ | ⟨x, rfl, hlc, hcm, hz, hcell, hwf⟩
  · go_enter Tryd.func7, Tryd.ntmps7
    go_wp2_with fail
    refine (Calls.mono (cloneNil1 _) ?_)
    rintro e w' ⟨rfl, rfl⟩
    go_wp2_with fail
    refine (zzSigDecodeNo s 0 0 none _ hs hp he3 (by omega) hne).mono ?_
    rintro e w3 ⟨⟨gz, gh, t, u, hgz, hz, rfl⟩, hb3⟩
    have hmz := matI_zero hz
    go_wp2_with fail
    try simp only [Act.put]
    refine wp_region_viaA (fun A a' w' => ∃ a5 c5, MatV .u32 w3.heap.size w' a5 (ll s) (fun _ _ => 0) ∧ Below w3.heap.size w3 w' ∧ a' = ((((((((((A.put (some 21) (.slice none 0 0)).put (some 22) (.slice (some ⟨gz, 0, none⟩) (ll s) (ll s))).put (some 24) (.slice (some ⟨gh, 0, none⟩) (kk s) (kk s))).put (some 25) (.iface t u)).put (some 26) (.bool false)).put (some 23) (.slice a5 (ll s) c5)).put (some 4) (.slice none 0 0)).put (some 5) (.slice a5 (ll s) c5)).put (some 6) (.slice (some ⟨gh, 0, none⟩) (kk s) (kk s))).put (some 7) (.bool false))) ?_ ?_
    · refine wp_region_mids (C := fun _ => True) [0, 1, 3, 4, 5] 5 (by kernel_rfl) (by kernel_rfl) (fun _ _ _ _ _ h => nomatch h.1) trivial (by kernel_rfl) ?_
      simp only [opsAt, List.filterMap_cons, List.filterMap_nil, List.getElem?_toArray, List.getElem?_cons_succ, List.getElem?_cons_zero]
      change wpQuiet _ _ _ _ (_ :: _ :: _ :: _ :: _ :: []) _
      (first | go_big_quiet_skip | (go_big_quiet_want; go_big_quiet_op; first | go_big_quiet_on | (apply Exists.intro; refine ⟨fun _ _ => rfl, ?_⟩; go_big_quiet_on)))
      (first | go_big_quiet_skip | (go_big_quiet_want; go_big_quiet_op; first | go_big_quiet_on | (apply Exists.intro; refine ⟨fun _ _ => rfl, ?_⟩; go_big_quiet_on)))
      (first | go_big_quiet_skip | (go_big_quiet_want; go_big_quiet_op; first | go_big_quiet_on | (apply Exists.intro; refine ⟨fun _ _ => rfl, ?_⟩; go_big_quiet_on)))
      (first | go_big_quiet_skip | (go_big_quiet_want; go_big_quiet_op; first | go_big_quiet_on | (apply Exists.intro; refine ⟨fun _ _ => rfl, ?_⟩; go_big_quiet_on)))
      (first | go_big_quiet_skip | (go_big_quiet_want; go_big_quiet_op; first | go_big_quiet_on | (apply Exists.intro; refine ⟨fun _ _ => rfl, ?_⟩; go_big_quiet_on)))
      refine wpQuiet_nil ?_
      obtain ⟨Wd, hWd⟩ : ∃ Wd : World, Wd = { w3 with drawn := w3.drawn + 1 } := ⟨_, rfl⟩
      have hWs : Below w3.heap.size w3 Wd := by rw [hWd]; exact abv_drawn w3
      have hmz := hmz.below hWs
      rw [← hWd]
      clear hWd
      refine wpAnyH_all (rs := [2]) (by kernel_rfl) (by decide) ?_
      intro i hi
      obtain rfl := mem_one hi
      refine wpOp_call _ rfl rfl 27 _ _ rfl (by kernel_rfl) #[.slice (some ⟨gz, 0, none⟩) (ll s) (ll s)] (by simp only [List.map_toArray, List.map_cons, List.map_nil]; rfl) ?_
      refine (implOfRings ⟨gz, 0, none⟩ (ll s) (ll s) (fun _ _ => 0) Wd (by omega) hmz).mono ?_
      rintro e w5 ⟨⟨a5, c5, rfl, hv5⟩, hb5⟩
      refine ⟨_, rfl, trivial, ?_⟩
      refine wpAnyH_all (rs := [6]) (by kernel_rfl) (by decide) ?_
      intro i hi
      obtain rfl := mem_one hi
      refine wpOp_assign _ rfl rfl _ rfl ⟨trivial, ?_⟩
      refine wpAnyH_all (rs := [7]) (by kernel_rfl) (by decide) ?_
      intro i hi
      obtain rfl := mem_one hi
      refine wpOp_assign _ rfl rfl _ rfl ⟨trivial, ?_⟩
      refine wpAnyH_all (rs := [8]) (by kernel_rfl) (by decide) ?_
      intro i hi
      obtain rfl := mem_one hi
      refine wpOp_assign _ rfl rfl _ rfl ⟨trivial, ?_⟩
      refine wpAnyH_all (rs := [9]) (by kernel_rfl) (by decide) ?_
      intro i hi
      obtain rfl := mem_one hi
      refine wpOp_assign _ rfl rfl _ rfl ⟨trivial, ?_⟩
      exact wpAnyH_done (by kernel_rfl) ⟨rfl, a5, c5, matV_base hv5 hWs.size, belowChain hWs hb5 hWs.size, by first | rfl | (simp [Act.put, Act.eval, go_sem])⟩ _
    rintro a' w6 ⟨a6, c6, hv6, hb6, rfl⟩
    simp only [Act.put, List.setIfInBounds_toArray, List.set_cons_zero, List.set_cons_succ]
    go_wp2_with fail
    (try simp only [Exit.inBlock, Exit.then]); refine bodyPost_ret (results_tmp4 rfl _ _ _) rfl ?_
    exact ⟨⟨_, _, _, rfl⟩, belowChain hb3 hb6 hb3.size⟩
  · have hr : Rd .u8 w x len (fun j => zs.getD j 0) := fun j hj => hcell j (by omega)
    go_enter Tryd.func7, Tryd.ntmps7
    go_wp2_with fail
    refine (cloneO1 x len cap _ _ (by omega) hr).mono ?_
    rintro e w1 ⟨⟨v, rfl, hown⟩, hb1⟩
    obtain ⟨a1, c1, rfl⟩ := owns_slice1 hown
    go_wp2_with fail
    refine (zzSigDecodeNo s len c1 a1 _ hs (hp.below hb1) (he3.below hb1) (by omega) hne).mono ?_
    rintro e w3 ⟨⟨gz, gh, t, u, hgz, hz, rfl⟩, hb3⟩
    have hmz := matI_zero hz
    go_wp2_with fail
    try simp only [Act.put]
    refine wp_region_viaA (fun A a' w' => ∃ a5 c5, MatV .u32 w3.heap.size w' a5 (ll s) (fun _ _ => 0) ∧ Below w3.heap.size w3 w' ∧ a' = ((((((((((A.put (some 21) (.slice none 0 0)).put (some 22) (.slice (some ⟨gz, 0, none⟩) (ll s) (ll s))).put (some 24) (.slice (some ⟨gh, 0, none⟩) (kk s) (kk s))).put (some 25) (.iface t u)).put (some 26) (.bool false)).put (some 23) (.slice a5 (ll s) c5)).put (some 4) (.slice none 0 0)).put (some 5) (.slice a5 (ll s) c5)).put (some 6) (.slice (some ⟨gh, 0, none⟩) (kk s) (kk s))).put (some 7) (.bool false))) ?_ ?_
    · refine wp_region_mids (C := fun _ => True) [0, 1, 3, 4, 5] 5 (by kernel_rfl) (by kernel_rfl) (fun _ _ _ _ _ h => nomatch h.1) trivial (by kernel_rfl) ?_
      simp only [opsAt, List.filterMap_cons, List.filterMap_nil, List.getElem?_toArray, List.getElem?_cons_succ, List.getElem?_cons_zero]
      change wpQuiet _ _ _ _ (_ :: _ :: _ :: _ :: _ :: []) _
      (first | go_big_quiet_skip | (go_big_quiet_want; go_big_quiet_op; first | go_big_quiet_on | (apply Exists.intro; refine ⟨fun _ _ => rfl, ?_⟩; go_big_quiet_on)))
      (first | go_big_quiet_skip | (go_big_quiet_want; go_big_quiet_op; first | go_big_quiet_on | (apply Exists.intro; refine ⟨fun _ _ => rfl, ?_⟩; go_big_quiet_on)))
      (first | go_big_quiet_skip | (go_big_quiet_want; go_big_quiet_op; first | go_big_quiet_on | (apply Exists.intro; refine ⟨fun _ _ => rfl, ?_⟩; go_big_quiet_on)))
      (first | go_big_quiet_skip | (go_big_quiet_want; go_big_quiet_op; first | go_big_quiet_on | (apply Exists.intro; refine ⟨fun _ _ => rfl, ?_⟩; go_big_quiet_on)))
      (first | go_big_quiet_skip | (go_big_quiet_want; go_big_quiet_op; first | go_big_quiet_on | (apply Exists.intro; refine ⟨fun _ _ => rfl, ?_⟩; go_big_quiet_on)))
      refine wpQuiet_nil ?_
      obtain ⟨Wd, hWd⟩ : ∃ Wd : World, Wd = { w3 with drawn := w3.drawn + 1 } := ⟨_, rfl⟩
      have hWs : Below w3.heap.size w3 Wd := by rw [hWd]; exact abv_drawn w3
      have hmz := hmz.below hWs
      rw [← hWd]
      clear hWd
      refine wpAnyH_all (rs := [2]) (by kernel_rfl) (by decide) ?_
      intro i hi
      obtain rfl := mem_one hi
      refine wpOp_call _ rfl rfl 27 _ _ rfl (by kernel_rfl) #[.slice (some ⟨gz, 0, none⟩) (ll s) (ll s)] (by simp only [List.map_toArray, List.map_cons, List.map_nil]; rfl) ?_
      refine (implOfRings ⟨gz, 0, none⟩ (ll s) (ll s) (fun _ _ => 0) Wd (by omega) hmz).mono ?_
      rintro e w5 ⟨⟨a5, c5, rfl, hv5⟩, hb5⟩
      refine ⟨_, rfl, trivial, ?_⟩
      refine wpAnyH_all (rs := [6]) (by kernel_rfl) (by decide) ?_
      intro i hi
      obtain rfl := mem_one hi
      refine wpOp_assign _ rfl rfl _ rfl ⟨trivial, ?_⟩
      refine wpAnyH_all (rs := [7]) (by kernel_rfl) (by decide) ?_
      intro i hi
      obtain rfl := mem_one hi
      refine wpOp_assign _ rfl rfl _ rfl ⟨trivial, ?_⟩
      refine wpAnyH_all (rs := [8]) (by kernel_rfl) (by decide) ?_
      intro i hi
      obtain rfl := mem_one hi
      refine wpOp_assign _ rfl rfl _ rfl ⟨trivial, ?_⟩
      refine wpAnyH_all (rs := [9]) (by kernel_rfl) (by decide) ?_
      intro i hi
      obtain rfl := mem_one hi
      refine wpOp_assign _ rfl rfl _ rfl ⟨trivial, ?_⟩
      exact wpAnyH_done (by kernel_rfl) ⟨rfl, a5, c5, matV_base hv5 hWs.size, belowChain hWs hb5 hWs.size, by first | rfl | (simp [Act.put, Act.eval, go_sem])⟩ _
    rintro a' w6 ⟨a6, c6, hv6, hb6, rfl⟩
    simp only [Act.put, List.setIfInBounds_toArray, List.set_cons_zero, List.set_cons_succ]
    go_wp2_with fail
    (try simp only [Exit.inBlock, Exit.then]); refine bodyPost_ret (results_tmp4 rfl _ _ _) rfl ?_
    have hB3 := belowChain hb1 hb3 hb1.size
    exact ⟨⟨_, _, _, rfl⟩, belowChain hB3 hb6 hB3.size⟩
set_option maxRecDepth 100000 in
set_option maxHeartbeats 1000000 in
theorem implSigDecode (s cap : Nat) (x : Addr) (b : Nat → Int) (w : World) (hs : s < 3) (hp : Par w) (he4 : GErr w 4) (he5 : GErr w 5) (he6 : GErr w 6) (hr : Rd .u8 w x (sgz s) b) (hb : ∀ i, i < sgz s → 0 ≤ b i ∧ b i < 256) :
    Calls Tryd.prog 7 #[.int .i64 (nm s), .slice (some x) (sgz s) cap] w (ISPost s b w) := by
  unfold ISPost
  obtain ⟨hl0, hl1⟩ := ll_bd s hs
  obtain ⟨hk0, hk1⟩ := kk_bd s hs
  obtain ⟨hc0, hc1⟩ := cc_bd s hs
  have hsb := sgz_bd s hs
  have hse : cc s ≤ sgz s := by unfold sgz mm; omega
  have HB := Lib.hid hb; clear hb
  go_enter Tryd.func7, Tryd.ntmps7
  go_wp2_with fail
  refine (cloneB x (sgz s) cap b _ (by omega) (by omega) hr).mono ?_
  rintro e w1 ⟨⟨g, c, rfl, hg, hc, hcm, hrd⟩, hb1⟩
  go_wp2_with fail
  refine (zzSigDecode s g c b _ hs (hp.below hb1) (he4.below hb1) (he5.below hb1) (he6.below hb1) hc hcm hrd HB.out).mono ?_
  rintro e w3 ⟨⟨gz, gh, hgz, hgh, hz, h⟩, hb3⟩
  have hrd := hrd.below hb3
  have hB3 := belowChain hb1 hb3 hb1.size
  have hmz := matI_zval hz
  rcases h with ⟨hok, rfl, hbt⟩ | ⟨hok, t, u, rfl⟩
  · go_wp2_with fail
    try simp only [Act.put]
    refine wp_region_viaA (fun A a' w' => ∃ a5 c5, MatV .u32 w3.heap.size w' a5 (ll s) (zrow s b) ∧ Below w3.heap.size w3 w' ∧ a' = ((((((((((A.put (some 21) (.slice (some ⟨g, 0, none⟩) (cc s) c)).put (some 22) (.slice (some ⟨gz, 0, none⟩) (ll s) (ll s))).put (some 24) (.slice (some ⟨gh, 0, none⟩) (kk s) (kk s))).put (some 25) (.nilIface)).put (some 26) (.bool true)).put (some 23) (.slice a5 (ll s) c5)).put (some 4) (.slice (some ⟨g, 0, none⟩) (cc s) c)).put (some 5) (.slice a5 (ll s) c5)).put (some 6) (.slice (some ⟨gh, 0, none⟩) (kk s) (kk s))).put (some 7) (.bool true))) ?_ ?_
    · refine wp_region_mids (C := fun _ => True) [0, 1, 3, 4, 5] 5 (by kernel_rfl) (by kernel_rfl) (fun _ _ _ _ _ h => nomatch h.1) trivial (by kernel_rfl) ?_
      simp only [opsAt, List.filterMap_cons, List.filterMap_nil, List.getElem?_toArray, List.getElem?_cons_succ, List.getElem?_cons_zero]
      change wpQuiet _ _ _ _ (_ :: _ :: _ :: _ :: _ :: []) _
      (first | go_big_quiet_skip | (go_big_quiet_want; go_big_quiet_op; first | go_big_quiet_on | (apply Exists.intro; refine ⟨fun _ _ => rfl, ?_⟩; go_big_quiet_on)))
      (first | go_big_quiet_skip | (go_big_quiet_want; go_big_quiet_op; first | go_big_quiet_on | (apply Exists.intro; refine ⟨fun _ _ => rfl, ?_⟩; go_big_quiet_on)))
      (first | go_big_quiet_skip | (go_big_quiet_want; go_big_quiet_op; first | go_big_quiet_on | (apply Exists.intro; refine ⟨fun _ _ => rfl, ?_⟩; go_big_quiet_on)))
      (first | go_big_quiet_skip | (go_big_quiet_want; go_big_quiet_op; first | go_big_quiet_on | (apply Exists.intro; refine ⟨fun _ _ => rfl, ?_⟩; go_big_quiet_on)))
      (first | go_big_quiet_skip | (go_big_quiet_want; go_big_quiet_op; first | go_big_quiet_on | (apply Exists.intro; refine ⟨fun _ _ => rfl, ?_⟩; go_big_quiet_on)))
      refine wpQuiet_nil ?_
      obtain ⟨Wd, hWd⟩ : ∃ Wd : World, Wd = { w3 with drawn := w3.drawn + 1 } := ⟨_, rfl⟩
      have hWs : Below w3.heap.size w3 Wd := by rw [hWd]; exact abv_drawn w3
      have hmz := hmz.below hWs
      rw [← hWd]
      clear hWd
      refine wpAnyH_all (rs := [2]) (by kernel_rfl) (by decide) ?_
      intro i hi
      obtain rfl := mem_one hi
      refine wpOp_call _ rfl rfl 27 _ _ rfl (by kernel_rfl) #[.slice (some ⟨gz, 0, none⟩) (ll s) (ll s)] (by simp only [List.map_toArray, List.map_cons, List.map_nil]; rfl) ?_
      refine (implOfRings ⟨gz, 0, none⟩ (ll s) (ll s) (zrow s b) Wd (by omega) hmz).mono ?_
      rintro e w5 ⟨⟨a5, c5, rfl, hv5⟩, hb5⟩
      refine ⟨_, rfl, trivial, ?_⟩
      refine wpAnyH_all (rs := [6]) (by kernel_rfl) (by decide) ?_
      intro i hi
      obtain rfl := mem_one hi
      refine wpOp_assign _ rfl rfl _ rfl ⟨trivial, ?_⟩
      refine wpAnyH_all (rs := [7]) (by kernel_rfl) (by decide) ?_
      intro i hi
      obtain rfl := mem_one hi
      refine wpOp_assign _ rfl rfl _ rfl ⟨trivial, ?_⟩
      refine wpAnyH_all (rs := [8]) (by kernel_rfl) (by decide) ?_
      intro i hi
      obtain rfl := mem_one hi
      refine wpOp_assign _ rfl rfl _ rfl ⟨trivial, ?_⟩
      refine wpAnyH_all (rs := [9]) (by kernel_rfl) (by decide) ?_
      intro i hi
      obtain rfl := mem_one hi
      refine wpOp_assign _ rfl rfl _ rfl ⟨trivial, ?_⟩
      exact wpAnyH_done (by kernel_rfl) ⟨rfl, a5, c5, matV_base hv5 hWs.size, belowChain hWs hb5 hWs.size, by first | rfl | (simp [Act.put, Act.eval, go_sem])⟩ _
    rintro a' w6 ⟨a6, c6, hv6, hb6, rfl⟩
    simp only [Act.put, List.setIfInBounds_toArray, List.set_cons_zero, List.set_cons_succ]
    go_wp2_with fail
    (try simp only [Exit.inBlock, Exit.then]); refine bodyPost_ret (results_tmp4 rfl _ _ _) rfl ?_
    obtain ⟨g6, rfl, hg6, hm6⟩ : ∃ g, a6 = some ⟨g, 0, none⟩ ∧ w3.heap.size ≤ g ∧ MatI .u32 w6 ⟨g, 0, none⟩ (ll s) (zrow s b) := by
      rcases hv6 with h0 | h
      · omega
      · exact h
    exact ⟨.inl ⟨hok, g, c, g6, c6, gh, rfl, fun j hj => (hrd.below hb6) j (by omega), hm6, hbt.below hb6⟩, belowChain hB3 hb6 hB3.size⟩
  · go_wp2_with fail
    try simp only [Act.put]
    refine wp_region_viaA (fun A a' w' => ∃ a5 c5, MatV .u32 w3.heap.size w' a5 (ll s) (zrow s b) ∧ Below w3.heap.size w3 w' ∧ a' = ((((((((((A.put (some 21) (.slice none 0 0)).put (some 22) (.slice (some ⟨gz, 0, none⟩) (ll s) (ll s))).put (some 24) (.slice (some ⟨gh, 0, none⟩) (kk s) (kk s))).put (some 25) (.iface t u)).put (some 26) (.bool false)).put (some 23) (.slice a5 (ll s) c5)).put (some 4) (.slice none 0 0)).put (some 5) (.slice a5 (ll s) c5)).put (some 6) (.slice (some ⟨gh, 0, none⟩) (kk s) (kk s))).put (some 7) (.bool false))) ?_ ?_
    · refine wp_region_mids (C := fun _ => True) [0, 1, 3, 4, 5] 5 (by kernel_rfl) (by kernel_rfl) (fun _ _ _ _ _ h => nomatch h.1) trivial (by kernel_rfl) ?_
      simp only [opsAt, List.filterMap_cons, List.filterMap_nil, List.getElem?_toArray, List.getElem?_cons_succ, List.getElem?_cons_zero]
      change wpQuiet _ _ _ _ (_ :: _ :: _ :: _ :: _ :: []) _
      (first | go_big_quiet_skip | (go_big_quiet_want; go_big_quiet_op; first | go_big_quiet_on | (apply Exists.intro; refine ⟨fun _ _ => rfl, ?_⟩; go_big_quiet_on)))
      (first | go_big_quiet_skip | (go_big_quiet_want; go_big_quiet_op; first | go_big_quiet_on | (apply Exists.intro; refine ⟨fun _ _ => rfl, ?_⟩; go_big_quiet_on)))
      (first | go_big_quiet_skip | (go_big_quiet_want; go_big_quiet_op; first | go_big_quiet_on | (apply Exists.intro; refine ⟨fun _ _ => rfl, ?_⟩; go_big_quiet_on)))
      (first | go_big_quiet_skip | (go_big_quiet_want; go_big_quiet_op; first | go_big_quiet_on | (apply Exists.intro; refine ⟨fun _ _ => rfl, ?_⟩; go_big_quiet_on)))
      (first | go_big_quiet_skip | (go_big_quiet_want; go_big_quiet_op; first | go_big_quiet_on | (apply Exists.intro; refine ⟨fun _ _ => rfl, ?_⟩; go_big_quiet_on)))
      refine wpQuiet_nil ?_
      obtain ⟨Wd, hWd⟩ : ∃ Wd : World, Wd = { w3 with drawn := w3.drawn + 1 } := ⟨_, rfl⟩
      have hWs : Below w3.heap.size w3 Wd := by rw [hWd]; exact abv_drawn w3
      have hmz := hmz.below hWs
      rw [← hWd]
      clear hWd
      refine wpAnyH_all (rs := [2]) (by kernel_rfl) (by decide) ?_
      intro i hi
      obtain rfl := mem_one hi
      refine wpOp_call _ rfl rfl 27 _ _ rfl (by kernel_rfl) #[.slice (some ⟨gz, 0, none⟩) (ll s) (ll s)] (by simp only [List.map_toArray, List.map_cons, List.map_nil]; rfl) ?_
      refine (implOfRings ⟨gz, 0, none⟩ (ll s) (ll s) (zrow s b) Wd (by omega) hmz).mono ?_
      rintro e w5 ⟨⟨a5, c5, rfl, hv5⟩, hb5⟩
      refine ⟨_, rfl, trivial, ?_⟩
      refine wpAnyH_all (rs := [6]) (by kernel_rfl) (by decide) ?_
      intro i hi
      obtain rfl := mem_one hi
      refine wpOp_assign _ rfl rfl _ rfl ⟨trivial, ?_⟩
      refine wpAnyH_all (rs := [7]) (by kernel_rfl) (by decide) ?_
      intro i hi
      obtain rfl := mem_one hi
      refine wpOp_assign _ rfl rfl _ rfl ⟨trivial, ?_⟩
      refine wpAnyH_all (rs := [8]) (by kernel_rfl) (by decide) ?_
      intro i hi
      obtain rfl := mem_one hi
      refine wpOp_assign _ rfl rfl _ rfl ⟨trivial, ?_⟩
      refine wpAnyH_all (rs := [9]) (by kernel_rfl) (by decide) ?_
      intro i hi
      obtain rfl := mem_one hi
      refine wpOp_assign _ rfl rfl _ rfl ⟨trivial, ?_⟩
      exact wpAnyH_done (by kernel_rfl) ⟨rfl, a5, c5, matV_base hv5 hWs.size, belowChain hWs hb5 hWs.size, by first | rfl | (simp [Act.put, Act.eval, go_sem])⟩ _
    rintro a' w6 ⟨a6, c6, hv6, hb6, rfl⟩
    simp only [Act.put, List.setIfInBounds_toArray, List.set_cons_zero, List.set_cons_succ]
    go_wp2_with fail
    (try simp only [Exit.inBlock, Exit.then]); refine bodyPost_ret (results_tmp4 rfl _ _ _) rfl ?_
    exact ⟨.inr ⟨hok, _, _, _, rfl⟩, belowChain hB3 hb6 hB3.size⟩

end Go.Proofs.YtanfpnidlgejhaaDoor
