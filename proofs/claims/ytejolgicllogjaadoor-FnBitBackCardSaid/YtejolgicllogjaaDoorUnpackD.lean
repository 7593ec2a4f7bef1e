/-
  Bytes read as a mask: FnBitUnpack.
-/
import Derived.Test.YtejolgicllogjaaDoorUnpack18
import Derived.Test.YtejolgicllogjaaDoorSets
import Derived.Test.YtejolgicllogjaaDoorCell
namespace Go.Proofs.YtejolgicllogjaaDoor
open Go.RowKit

def dd (s : Nat) : Nat := if s = 0 then 18 else 20
def uval (s : Nat) (b : Nat → Int) (i : Nat) : Int := (ss s 4 - ubits b (32 * dd s) (dd s) i) * 4193792 % 8380417
theorem gm0 : ss 0 4 = 131072 := rfl
theorem gm1 : ss 1 4 = 524288 := rfl
theorem gm2 : ss 2 4 = 524288 := rfl

set_option maxRecDepth 100000 in
set_option maxHeartbeats 1000000 in
theorem bitUnpackP (s g c : Nat) (b : Nat → Int) (w : World) (hs : s < 3) (hc : 32 * dd s ≤ c) (hcm : c ≤ maxLen) (hr : Rd .u8 w ⟨g, 0, none⟩ (32 * dd s) b) (hb : ∀ i, i < 32 * dd s → 0 ≤ b i ∧ b i < 256) :
    Calls Tryd.prog 33 #[.slice (some ⟨g, 0, none⟩) (32 * dd s) c, .agg (arr .i64 8 (ps s))] w fun e w' => e = .returned (.agg (arr .u32 256 (uval s b))) ∧ Below w.heap.size w w' := by
  have HB := Lib.hid hb; clear hb
  have HR := Lib.hid hr; clear hr
  have h3 : s = 0 ∨ s = 1 ∨ s = 2 := by omega
  clear hs
  rcases h3 with rfl | rfl | rfl
  · have hg := Blk.cellv ((Blk.new (g := w.heap.size) w .i64 8 (ps 0) 57 rfl).alloc (.cells (arr .u32 256 (fun _ => 0)) 47)) 3 17 (by omega) rfl
    go_enter Tryd.func33, Tryd.ntmps33
    go_wp2_with fail
    refine (unpack18 g c b _ hc hcm (HR.out.below (((Below.refl w.heap.size w).alloc (by first | omega | (simp; done) | (simp; omega)) _).alloc (by first | omega | (simp; done) | (simp; omega)) _)) HB.out).mono ?_
    rintro e w1 ⟨rfl, hb1⟩
    have f0 := Blk.below (Blk.new (g := w.heap.size + 1) (w.alloc (.cells (arr .i64 8 (ps 0)) 57)) .u32 256 (fun _ => 0) 47 (by first | omega | (simp; done) | (simp; omega))) hb1
    have hB1 := belowChain (((Below.refl w.heap.size w).alloc (by first | omega | (simp; done) | (simp; omega)) (.cells (arr .i64 8 (ps 0)) 57)).alloc (by first | omega | (simp; done) | (simp; omega)) (.cells (arr .u32 256 (fun _ => 0)) 47)) hb1 (by first | omega | (simp; done) | (simp; omega))
    go_wp2_with (first | (with_reducible refine at_store 47 _ _ rfl ?_; refine wpList_store_arr iR rfl _ _ rfl _ rfl rfl (f0) ?_))
    exact bodyPost_ret (v := .agg (arr .u32 256 (uval 0 b))) (results_arr Tryd.underlying47 iR rfl _ _ _ rfl (f0.row _ _)) rfl ⟨rfl, below_setRow hB1 (by first | omega | (simp; done) | (simp; omega)) _⟩
  · have hg := Blk.cellv ((Blk.new (g := w.heap.size) w .i64 8 (ps 1) 57 rfl).alloc (.cells (arr .u32 256 (fun _ => 0)) 47)) 3 19 (by omega) rfl
    go_enter Tryd.func33, Tryd.ntmps33
    go_wp2_with fail
    refine (unpack20 g c b _ hc hcm (HR.out.below (((Below.refl w.heap.size w).alloc (by first | omega | (simp; done) | (simp; omega)) _).alloc (by first | omega | (simp; done) | (simp; omega)) _)) HB.out).mono ?_
    rintro e w1 ⟨rfl, hb1⟩
    have f0 := Blk.below (Blk.new (g := w.heap.size + 1) (w.alloc (.cells (arr .i64 8 (ps 1)) 57)) .u32 256 (fun _ => 0) 47 (by first | omega | (simp; done) | (simp; omega))) hb1
    have hB1 := belowChain (((Below.refl w.heap.size w).alloc (by first | omega | (simp; done) | (simp; omega)) (.cells (arr .i64 8 (ps 1)) 57)).alloc (by first | omega | (simp; done) | (simp; omega)) (.cells (arr .u32 256 (fun _ => 0)) 47)) hb1 (by first | omega | (simp; done) | (simp; omega))
    go_wp2_with (first | (with_reducible refine at_store 47 _ _ rfl ?_; refine wpList_store_arr iR rfl _ _ rfl _ rfl rfl (f0) ?_))
    exact bodyPost_ret (v := .agg (arr .u32 256 (uval 1 b))) (results_arr Tryd.underlying47 iR rfl _ _ _ rfl (f0.row _ _)) rfl ⟨rfl, below_setRow hB1 (by first | omega | (simp; done) | (simp; omega)) _⟩
  · have hg := Blk.cellv ((Blk.new (g := w.heap.size) w .i64 8 (ps 2) 57 rfl).alloc (.cells (arr .u32 256 (fun _ => 0)) 47)) 3 19 (by omega) rfl
    go_enter Tryd.func33, Tryd.ntmps33
    go_wp2_with fail
    refine (unpack20 g c b _ hc hcm (HR.out.below (((Below.refl w.heap.size w).alloc (by first | omega | (simp; done) | (simp; omega)) _).alloc (by first | omega | (simp; done) | (simp; omega)) _)) HB.out).mono ?_
    rintro e w1 ⟨rfl, hb1⟩
    have f0 := Blk.below (Blk.new (g := w.heap.size + 1) (w.alloc (.cells (arr .i64 8 (ps 2)) 57)) .u32 256 (fun _ => 0) 47 (by first | omega | (simp; done) | (simp; omega))) hb1
    have hB1 := belowChain (((Below.refl w.heap.size w).alloc (by first | omega | (simp; done) | (simp; omega)) (.cells (arr .i64 8 (ps 2)) 57)).alloc (by first | omega | (simp; done) | (simp; omega)) (.cells (arr .u32 256 (fun _ => 0)) 47)) hb1 (by first | omega | (simp; done) | (simp; omega))
    go_wp2_with (first | (with_reducible refine at_store 47 _ _ rfl ?_; refine wpList_store_arr iR rfl _ _ rfl _ rfl rfl (f0) ?_))
    exact bodyPost_ret (v := .agg (arr .u32 256 (uval 2 b))) (results_arr Tryd.underlying47 iR rfl _ _ _ rfl (f0.row _ _)) rfl ⟨rfl, below_setRow hB1 (by first | omega | (simp; done) | (simp; omega)) _⟩

set_option maxRecDepth 100000 in
set_option maxHeartbeats 1000000 in
theorem zzBitUnpack (s g c : Nat) (b : Nat → Int) (w : World) (hs : s < 3) (hp : Par w) (hc : 32 * dd s ≤ c) (hcm : c ≤ maxLen) (hr : Rd .u8 w ⟨g, 0, none⟩ (32 * dd s) b) (hb : ∀ i, i < 32 * dd s → 0 ≤ b i ∧ b i < 256) :
    Calls Tryd.prog 22 #[.int .i64 (nm s), .slice (some ⟨g, 0, none⟩) (32 * dd s) c] w fun e w' => e = .returned (.agg (arr .u32 256 (uval s b))) ∧ Below w.heap.size w w' := by
  have HB := Lib.hid hb; clear hb
  have HR := Lib.hid hr; clear hr
  go_enter Tryd.func22, Tryd.ntmps22
  go_wp2_with fail
  refine (zzSet s _ hs (hp.alloc _)).mono ?_
  rintro e w1 ⟨rfl, hb1⟩
  have f0 := Blk.below (Blk.new w .u32 256 (fun _ => 0) 47 rfl) hb1
  have hB1 := belowChain ((Below.refl w.heap.size w).alloc (by first | omega | (simp; done) | (simp; omega)) (.cells (arr .u32 256 (fun _ => 0)) 47)) hb1 (by first | omega | (simp; done) | (simp; omega))
  go_wp2_with fail
  refine (bitUnpackP s g c b _ hs hc hcm (HR.out.below hB1) HB.out).mono ?_
  rintro e w2 ⟨rfl, hb2⟩
  have f0 := Blk.below f0 hb2
  have hB2 := belowChain hB1 hb2 hB1.size
  go_wp2_with (first | (with_reducible refine at_store 47 _ _ rfl ?_; refine wpList_store_arr iR rfl _ _ rfl _ rfl rfl (f0) ?_))
  exact bodyPost_ret (v := .agg (arr .u32 256 (uval s b))) (results_arr Tryd.underlying47 iR rfl _ _ _ rfl (f0.row _ _)) rfl ⟨rfl, below_setRow hB2 (by first | omega | (simp; done) | (simp; omega)) _⟩
set_option maxRecDepth 100000 in
set_option maxHeartbeats 1000000 in
theorem implBitUnpack (s : Nat) (x : Addr) (cap : Nat) (b : Nat → Int) (w : World) (hs : s < 3) (hp : Par w) (hr : Rd .u8 w x (32 * dd s) b) (hb : ∀ i, i < 32 * dd s → 0 ≤ b i ∧ b i < 256) :
    Calls Tryd.prog 10 #[.int .i64 (nm s), .slice (some x) (32 * dd s) cap] w fun e w' => e = .returned (.agg (arr .u32 256 (uval s b))) ∧ Below w.heap.size w w' := by
  have hd : 18 ≤ dd s ∧ dd s ≤ 20 := by unfold dd; split <;> omega
  have HB := Lib.hid hb; clear hb
  have HR := Lib.hid hr; clear hr
  go_enter Tryd.func10, Tryd.ntmps10
  go_wp2_with fail
  refine (cloneB x (32 * dd s) cap b _ (by omega) (by omega) (HR.out.below ((Below.refl w.heap.size w).alloc (by first | omega | (simp; done) | (simp; omega)) _))).mono ?_
  rintro e w1 ⟨⟨g, c, rfl, hg, hc, hcm, hrd⟩, hb1⟩
  have f0 := Blk.below (Blk.new w .u32 256 (fun _ => 0) 30 rfl) hb1
  have hB1 := belowChain ((Below.refl w.heap.size w).alloc (Nat.le_refl _) (.cells (arr .u32 256 (fun _ => 0)) 30)) hb1 (by first | omega | (simp; done) | (simp; omega))
  go_wp2_with fail
  refine (zzBitUnpack s g c b _ hs (hp.below hB1) hc hcm hrd HB.out).mono ?_
  rintro e w2 ⟨rfl, hb2⟩
  have f0 := Blk.below f0 hb2
  have hB2 := belowChain hB1 hb2 hB1.size
  go_wp2_with fail
  refine (implOfRing _ _).mono ?_
  rintro e w3 ⟨rfl, hb3⟩
  have f0 := Blk.below f0 hb3
  have hB3 := belowChain hB2 hb3 hB2.size
  go_wp2_with (first | (with_reducible refine at_store 30 _ _ rfl ?_; refine wpList_store_arr iU rfl _ _ rfl _ rfl rfl (f0) ?_))
  exact bodyPost_ret (v := .agg (arr .u32 256 (uval s b))) (results_arr Tryd.underlying30 iU rfl _ _ _ rfl (f0.row _ _)) rfl ⟨rfl, below_setRow hB3 (by first | omega | (simp; done) | (simp; omega)) _⟩


def blN (s : Nat) : Nat := if s = 0 then 262143 else 1048575
theorem blN_lt (s : Nat) (_h : s < 3) : blN s < 2 ^ 62 := by unfold blN; split <;> decide
theorem blN_dd (s : Nat) : blen 62 (blN s) = dd s := by unfold blN dd; split; exact blen_18; exact blen_20

set_option maxRecDepth 100000 in
set_option maxHeartbeats 1000000 in
theorem walkFnBitUnpack (n : Int) (a : Option Addr) (len cap : Nat) (zs : List Int) (w : World) (hp : Par w) (n0 : 0 ≤ n) (n1 : n < 256) (h : IsRow .u8 w a len cap zs) :
    Calls Tryd.prog 3 #[.int .u8 n, .slice a len cap] w fun e w' => e = .returned (.bool true) ∧ Below w.heap.size w w' := by
  obtain ⟨s, hs⟩ : ∃ s : Nat, (s : Int) = n % 3 := ⟨(n % 3).toNat, by omega⟩
  have hs3 : s < 3 := by omega
  have hgm : 2 * ss s 4 - 1 = (blN s : Int) := by
    have h3 : s = 0 ∨ s = 1 ∨ s = 2 := by omega
    rcases h3 with rfl | rfl | rfl <;> rfl
  have hgb : 0 ≤ ss s 4 ∧ ss s 4 ≤ 524288 := by
    have h3 : s = 0 ∨ s = 1 ∨ s = 2 := by omega
    rcases h3 with rfl | rfl | rfl <;> decide
  obtain ⟨hg0, hg1⟩ := hgb
  have hbl := blN_dd s
  by_cases hg : 2147483647 < len
  · go_enter Tryd.func3, Tryd.ntmps3
    go_wp2_with fail
    go_ret
    exact ⟨rfl, Below.refl _ _⟩
  · go_enter Tryd.func3, Tryd.ntmps3
    go_wp2_with fail
    refine (lwSet _ s _ n0 n1 hs).mono ?_
    rintro e w1 ⟨rfl, hb1⟩
    clear hs
    go_wp2_with (first | (with_reducible refine at_store 24 _ _ rfl ?_; refine wpList_store_arr iSet rfl _ _ rfl _ rfl rfl (Blk.zeros8 _ _ rfl) ?_))
    have fs := (Blk.zeros8 w1 24 rfl).row .i64 (ss s)
    have hB2 := below_setRow (hb1.alloc hb1.size (.cells #[.int .i64 0, .int .i64 0, .int .i64 0, .int .i64 0, .int .i64 0, .int .i64 0, .int .i64 0, .int .i64 0] 24)) (g := w1.heap.size) hb1.size (arr .i64 8 (ss s))
    have hd : 18 ≤ dd s ∧ dd s ≤ 20 := by unfold dd; split <;> omega
    obtain ⟨hd0, hd1⟩ := hd
    by_cases hl : len = 32 * dd s
    · subst hl
      obtain ⟨x, rfl, hr, hb⟩ := rd_of_row h (by omega)
      have HB := Lib.hid hb; clear hb
      have HR := Lib.hid (hr.below hB2); clear hr h
      have hne : ((((32 * dd s : Nat) : Int)) != 32 * (dd s : Int)) = false := by simp
      refine wp_region_below (by kernel_rfl) (by kernel_rfl) ?_
      (first | go_big_quiet_skip | (go_big_quiet_want; go_big_quiet_op; first | go_big_quiet_on | (apply Exists.intro; refine ⟨fun _ _ => rfl, ?_⟩; go_big_quiet_on)))
      (first | go_big_quiet_skip | (go_big_quiet_want; go_big_quiet_op; first | go_big_quiet_on | (apply Exists.intro; refine ⟨fun _ _ => rfl, ?_⟩; go_big_quiet_on)))
      (first | go_big_quiet_skip | (go_big_quiet_want; go_big_quiet_op; first | go_big_quiet_on | (apply Exists.intro; refine ⟨fun _ _ => rfl, ?_⟩; go_big_quiet_on)))
      (refine BigFrame.wpQuiet_want rfl (fun K hK => ?_); refine quiet_load_int 3 _ rfl _ 4 rfl .i64 (ss s 4) Tryd.isAgg3 (fun w' hw' => (Blk.below (fs) hw').cellv 4 _ (by omega) rfl) (hK _ ?_); clear hK K; simp only [Act.put, List.setIfInBounds_toArray, List.set_cons_zero, List.set_cons_succ])
      (first | go_big_quiet_skip | (go_big_quiet_want; go_big_quiet_op; first | go_big_quiet_on | (apply Exists.intro; refine ⟨fun _ _ => rfl, ?_⟩; go_big_quiet_on)))
      (first | go_big_quiet_skip | (go_big_quiet_want; go_big_quiet_op; first | go_big_quiet_on | (apply Exists.intro; refine ⟨fun _ _ => rfl, ?_⟩; go_big_quiet_on)))
      go_big_quiet_step ((intro hw'; go_at_call 8; exact Calls.in_same hw' (spBits (blN s) _ (blN_lt s hs3))))
      rw [hbl]
      (first | go_big_quiet_skip | (go_big_quiet_want; go_big_quiet_op; first | go_big_quiet_on | (apply Exists.intro; refine ⟨fun _ _ => rfl, ?_⟩; go_big_quiet_on)))
      (first | go_big_quiet_skip | (go_big_quiet_want; go_big_quiet_op; first | go_big_quiet_on | (apply Exists.intro; refine ⟨fun _ _ => rfl, ?_⟩; go_big_quiet_on)))
      (first | go_big_quiet_skip | (go_big_quiet_want; go_big_quiet_op; first | go_big_quiet_on | (apply Exists.intro; refine ⟨fun _ _ => rfl, ?_⟩; go_big_quiet_on)))
      (first | go_big_quiet_skip | (go_big_quiet_want; go_big_quiet_op; first | go_big_quiet_on | (apply Exists.intro; refine ⟨fun _ _ => rfl, ?_⟩; go_big_quiet_on)))
      (first | go_big_quiet_skip | (go_big_quiet_want; go_big_quiet_op; first | go_big_quiet_on | (apply Exists.intro; refine ⟨fun _ _ => rfl, ?_⟩; go_big_quiet_on)))
      go_big_quiet_step ((intro hw'; go_at_call 10; exact Calls.in_below hw' (implBitUnpack s x cap _ _ hs3 ((hp.below hB2).below hw') (HR.out.below hw') HB.out)))
      (first | go_big_quiet_skip | (go_big_quiet_want; go_big_quiet_op; first | go_big_quiet_on | (apply Exists.intro; refine ⟨fun _ _ => rfl, ?_⟩; go_big_quiet_on)))
      (first | go_big_quiet_skip | (go_big_quiet_want; go_big_quiet_op; first | go_big_quiet_on | (apply Exists.intro; refine ⟨fun _ _ => rfl, ?_⟩; go_big_quiet_on)))
      (refine BigFrame.wpQuiet_want rfl (fun K hK => ?_); refine quiet_load_int 3 _ rfl _ 4 rfl .i64 (ss s 4) Tryd.isAgg3 (fun w' hw' => (Blk.below (fs) hw').cellv 4 _ (by omega) rfl) (hK _ ?_); clear hK K; simp only [Act.put, List.setIfInBounds_toArray, List.set_cons_zero, List.set_cons_succ])
      (first | go_big_quiet_skip | (go_big_quiet_want; go_big_quiet_op; first | go_big_quiet_on | (apply Exists.intro; refine ⟨fun _ _ => rfl, ?_⟩; go_big_quiet_on)))
      (first | go_big_quiet_skip | (go_big_quiet_want; go_big_quiet_op; first | go_big_quiet_on | (apply Exists.intro; refine ⟨fun _ _ => rfl, ?_⟩; go_big_quiet_on)))
      (refine BigFrame.wpQuiet_want rfl (fun K hK => ?_); refine quiet_load_int 3 _ rfl _ 4 rfl .i64 (ss s 4) Tryd.isAgg3 (fun w' hw' => (Blk.below (fs) hw').cellv 4 _ (by omega) rfl) (hK _ ?_); clear hK K; simp only [Act.put, List.setIfInBounds_toArray, List.set_cons_zero, List.set_cons_succ])
      go_big_quiet_step ((intro hw'; go_at_call 11; exact Calls.in_below hw' (spUnpackedFrom x (32 * dd s) cap (dd s) (blN s) _ _ _ _ (by omega) (blN_lt s hs3) hbl (by omega) (by omega) (by omega) (by omega) (by omega) rfl (HR.out.below hw') HB.out)))
      go_big_quiet_step ((intro hw'; go_at_call 9; exact Calls.in_below hw' (lwIs _ _ _ (fun i _ => by unfold uval; omega) (fun i _ => ⟨by omega, by unfold uval; omega⟩))))
      (first | go_big_quiet_skip | (go_big_quiet_want; go_big_quiet_op; first | go_big_quiet_on | (apply Exists.intro; refine ⟨fun _ _ => rfl, ?_⟩; go_big_quiet_on)))
      (first | go_big_quiet_skip | (go_big_quiet_want; go_big_quiet_op; first | go_big_quiet_on | (apply Exists.intro; refine ⟨fun _ _ => rfl, ?_⟩; go_big_quiet_on)))
      refine wpQuiet_nil ?_
      intro w3 hb3
      go_wp2_with fail
      go_ret
      exact ⟨rfl, belowChain hB2 hb3 hB2.size⟩
    · have hne : ((len : Int) != 32 * (dd s : Int)) = true := by simp; omega
      clear h
      refine wp_region_below (by kernel_rfl) (by kernel_rfl) ?_
      (first | go_big_quiet_skip | (go_big_quiet_want; go_big_quiet_op; first | go_big_quiet_on | (apply Exists.intro; refine ⟨fun _ _ => rfl, ?_⟩; go_big_quiet_on)))
      (first | go_big_quiet_skip | (go_big_quiet_want; go_big_quiet_op; first | go_big_quiet_on | (apply Exists.intro; refine ⟨fun _ _ => rfl, ?_⟩; go_big_quiet_on)))
      (first | go_big_quiet_skip | (go_big_quiet_want; go_big_quiet_op; first | go_big_quiet_on | (apply Exists.intro; refine ⟨fun _ _ => rfl, ?_⟩; go_big_quiet_on)))
      (refine BigFrame.wpQuiet_want rfl (fun K hK => ?_); refine quiet_load_int 3 _ rfl _ 4 rfl .i64 (ss s 4) Tryd.isAgg3 (fun w' hw' => (Blk.below (fs) hw').cellv 4 _ (by omega) rfl) (hK _ ?_); clear hK K; simp only [Act.put, List.setIfInBounds_toArray, List.set_cons_zero, List.set_cons_succ])
      (first | go_big_quiet_skip | (go_big_quiet_want; go_big_quiet_op; first | go_big_quiet_on | (apply Exists.intro; refine ⟨fun _ _ => rfl, ?_⟩; go_big_quiet_on)))
      (first | go_big_quiet_skip | (go_big_quiet_want; go_big_quiet_op; first | go_big_quiet_on | (apply Exists.intro; refine ⟨fun _ _ => rfl, ?_⟩; go_big_quiet_on)))
      go_big_quiet_step ((intro hw'; go_at_call 8; exact Calls.in_same hw' (spBits (blN s) _ (blN_lt s hs3))))
      rw [hbl]
      repeat (first | go_big_quiet_skip | (go_big_quiet_want; go_big_quiet_op; first | go_big_quiet_on | (apply Exists.intro; refine ⟨fun _ _ => rfl, ?_⟩; go_big_quiet_on)))
      refine wpQuiet_nil ?_
      intro w3 hb3
      go_wp2_with fail
      go_ret
      exact ⟨rfl, belowChain hB2 hb3 hB2.size⟩

end Go.Proofs.YtejolgicllogjaaDoor
