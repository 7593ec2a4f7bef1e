/-
  A mask packed: FnBitPack.
-/
import Derived.Test.YtanfpnidlgejhaaDoorUnpackD
import Derived.Test.YtanfpnidlgejhaaDoorPack3
namespace Go.Proofs.YtanfpnidlgejhaaDoor
open Go.RowKit

/-- The numbers that are packed. -/
def pval (s : Nat) (r : Nat → Int) (i : Nat) : Int := ss s 4 - cen (mred (r i)) 8380417
theorem dd_pow (s : Nat) (hs : s < 3) : (2 : Int) ^ dd s = 2 * ss s 4 := by
  have h3 : s = 0 ∨ s = 1 ∨ s = 2 := by omega
  rcases h3 with rfl | rfl | rfl <;> decide

set_option maxRecDepth 100000 in
set_option maxHeartbeats 1000000 in
theorem bitPackP (s : Nat) (B : Nat) (v : Value) (L : Nat) (z0 r : Nat → Int) (w : World) (hs : s < 3) (hB : B ≤ w.heap.size) (hL : L ≤ 65536) (hv : Buf B w v L (32 * dd s) z0 5)
    (hr : ∀ i, i < 256 → 0 ≤ r i ∧ r i < 8380417) (hf : ∀ i, i < 256 → 0 ≤ pval s r i ∧ pval s r i < 2 ^ dd s) :
    Calls Tryd.prog 49 #[v, .agg (arr .u32 256 r), .agg (arr .i64 8 (ps s))] w fun e w' => ∃ g c z, e = .returned (.slice (some ⟨g, 0, none⟩) (L + 32 * dd s) c) ∧ B ≤ g ∧ L + 32 * dd s ≤ c ∧ c ≤ 1099511627776 ∧ Blk w' g .u8 c z 5 ∧ Kept g v L (32 * dd s) c z z0 ∧ (∀ j, j < 32 * dd s → z (L + j) = pby (dd s) (pval s r) 256 j) ∧ Below B w w' ∧ Ex g w w' := by
  have HV := Lib.hid hv; clear hv
  have HR := Lib.hid hr; clear hr
  have HF := Lib.hid hf; clear hf
  have h3 : s = 0 ∨ s = 1 ∨ s = 2 := by omega
  clear hs
  rcases h3 with rfl | rfl | rfl
  · have hg := Blk.cellv (Blk.new (g := w.heap.size + 1) (w.alloc (.cells (arr .u32 256 r) 82)) .i64 8 (ps 0) 76 (by first | omega | (simp; done) | (simp; omega))) 3 17 (by omega) rfl
    go_enter Tryd.func49, Tryd.ntmps49
    go_wp2_with (first | (with_reducible refine at_load 82 _ rfl ?_; refine wpList_load_arr Tryd.underlying82 iR rfl _ rfl _ rfl ((Blk.new w _ _ _ _ rfl).alloc _) ?_))
    refine (pack18 B v L z0 r _ (by first | omega | (simp; done) | (simp; omega)) hL ((HV.out.alloc _).alloc _) HR.out HF.out).mono ?_
    rintro e w1 ⟨g, c, z, rfl, hg, hc, hcm, hb, he1, he2, hb1, hx⟩
    go_wp2_with fail
    go_ret
    exact ⟨g, c, z, rfl, hg, hc, hcm, hb, he1, he2, ((((Below.refl w.heap.size w).alloc (Nat.le_refl _) _).alloc (by first | omega | (simp; done) | (simp; omega)) _).mono hB).trans hb1, (Ex.of_below (((Below.refl w.heap.size w).alloc (Nat.le_refl _) _).alloc (by first | omega | (simp; done) | (simp; omega)) _) g).trans hx⟩
  · have hg := Blk.cellv (Blk.new (g := w.heap.size + 1) (w.alloc (.cells (arr .u32 256 r) 82)) .i64 8 (ps 1) 76 (by first | omega | (simp; done) | (simp; omega))) 3 19 (by omega) rfl
    go_enter Tryd.func49, Tryd.ntmps49
    go_wp2_with (first | (with_reducible refine at_load 82 _ rfl ?_; refine wpList_load_arr Tryd.underlying82 iR rfl _ rfl _ rfl ((Blk.new w _ _ _ _ rfl).alloc _) ?_))
    refine (pack20 B v L z0 r _ (by first | omega | (simp; done) | (simp; omega)) hL ((HV.out.alloc _).alloc _) HR.out HF.out).mono ?_
    rintro e w1 ⟨g, c, z, rfl, hg, hc, hcm, hb, he1, he2, hb1, hx⟩
    go_wp2_with fail
    go_ret
    exact ⟨g, c, z, rfl, hg, hc, hcm, hb, he1, he2, ((((Below.refl w.heap.size w).alloc (Nat.le_refl _) _).alloc (by first | omega | (simp; done) | (simp; omega)) _).mono hB).trans hb1, (Ex.of_below (((Below.refl w.heap.size w).alloc (Nat.le_refl _) _).alloc (by first | omega | (simp; done) | (simp; omega)) _) g).trans hx⟩
  · have hg := Blk.cellv (Blk.new (g := w.heap.size + 1) (w.alloc (.cells (arr .u32 256 r) 82)) .i64 8 (ps 2) 76 (by first | omega | (simp; done) | (simp; omega))) 3 19 (by omega) rfl
    go_enter Tryd.func49, Tryd.ntmps49
    go_wp2_with (first | (with_reducible refine at_load 82 _ rfl ?_; refine wpList_load_arr Tryd.underlying82 iR rfl _ rfl _ rfl ((Blk.new w _ _ _ _ rfl).alloc _) ?_))
    refine (pack20 B v L z0 r _ (by first | omega | (simp; done) | (simp; omega)) hL ((HV.out.alloc _).alloc _) HR.out HF.out).mono ?_
    rintro e w1 ⟨g, c, z, rfl, hg, hc, hcm, hb, he1, he2, hb1, hx⟩
    go_wp2_with fail
    go_ret
    exact ⟨g, c, z, rfl, hg, hc, hcm, hb, he1, he2, ((((Below.refl w.heap.size w).alloc (Nat.le_refl _) _).alloc (by first | omega | (simp; done) | (simp; omega)) _).mono hB).trans hb1, (Ex.of_below (((Below.refl w.heap.size w).alloc (Nat.le_refl _) _).alloc (by first | omega | (simp; done) | (simp; omega)) _) g).trans hx⟩



end Go.Proofs.YtanfpnidlgejhaaDoor
