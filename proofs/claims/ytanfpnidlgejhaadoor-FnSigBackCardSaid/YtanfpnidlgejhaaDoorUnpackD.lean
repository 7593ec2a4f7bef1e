/-
  Bytes read as a mask: FnBitUnpack.
-/
import Derived.Test.YtanfpnidlgejhaaDoorUnpack18
import Derived.Test.YtanfpnidlgejhaaDoorSets
import Derived.Test.YtanfpnidlgejhaaDoorCell
namespace Go.Proofs.YtanfpnidlgejhaaDoor
open Go.RowKit

def dd (s : Nat) : Nat := if s = 0 then 18 else 20
def uval (s : Nat) (b : Nat → Int) (i : Nat) : Int := (ss s 4 - ubits b (32 * dd s) (dd s) i) * 4193792 % 8380417
theorem gm0 : ss 0 4 = 131072 := rfl
theorem gm1 : ss 1 4 = 524288 := rfl
theorem gm2 : ss 2 4 = 524288 := rfl

set_option maxRecDepth 100000 in
set_option maxHeartbeats 1000000 in
theorem bitUnpackP (s g q c : Nat) (b : Nat → Int) (w : World) (hs : s < 3) (hc : 32 * dd s ≤ c) (hcm : c ≤ maxLen) (hr : Rd .u8 w ⟨g, q, none⟩ (32 * dd s) b) (hb : ∀ i, i < 32 * dd s → 0 ≤ b i ∧ b i < 256) :
    Calls Tryd.prog 47 #[.slice (some ⟨g, q, none⟩) (32 * dd s) c, .agg (arr .i64 8 (ps s))] w fun e w' => e = .returned (.agg (arr .u32 256 (uval s b))) ∧ Below w.heap.size w w' := by
  have HB := Lib.hid hb; clear hb
  have HR := Lib.hid hr; clear hr
  have h3 : s = 0 ∨ s = 1 ∨ s = 2 := by omega
  clear hs
  rcases h3 with rfl | rfl | rfl
  · have hg := Blk.cellv ((Blk.new (g := w.heap.size) w .i64 8 (ps 0) 76 rfl).alloc (.cells (arr .u32 256 (fun _ => 0)) 82)) 3 17 (by omega) rfl
    go_enter Tryd.func47, Tryd.ntmps47
    go_wp2_with fail
    refine (unpack18 g q c b _ hc hcm (HR.out.below (((Below.refl w.heap.size w).alloc (by first | omega | (simp; done) | (simp; omega)) _).alloc (by first | omega | (simp; done) | (simp; omega)) _)) HB.out).mono ?_
    rintro e w1 ⟨rfl, hb1⟩
    have f0 := Blk.below (Blk.new (g := w.heap.size + 1) (w.alloc (.cells (arr .i64 8 (ps 0)) 76)) .u32 256 (fun _ => 0) 82 (by first | omega | (simp; done) | (simp; omega))) hb1
    have hB1 := belowChain (((Below.refl w.heap.size w).alloc (by first | omega | (simp; done) | (simp; omega)) (.cells (arr .i64 8 (ps 0)) 76)).alloc (by first | omega | (simp; done) | (simp; omega)) (.cells (arr .u32 256 (fun _ => 0)) 82)) hb1 (by first | omega | (simp; done) | (simp; omega))
    go_wp2_with (first | (with_reducible refine at_store 82 _ _ rfl ?_; refine wpList_store_arr iR rfl _ _ rfl _ rfl rfl (f0) ?_))
    exact bodyPost_ret (v := .agg (arr .u32 256 (uval 0 b))) (results_arr Tryd.underlying82 iR rfl _ _ _ rfl (f0.row _ _)) rfl ⟨rfl, below_setRow hB1 (by first | omega | (simp; done) | (simp; omega)) _⟩
  · have hg := Blk.cellv ((Blk.new (g := w.heap.size) w .i64 8 (ps 1) 76 rfl).alloc (.cells (arr .u32 256 (fun _ => 0)) 82)) 3 19 (by omega) rfl
    go_enter Tryd.func47, Tryd.ntmps47
    go_wp2_with fail
    refine (unpack20 g q c b _ hc hcm (HR.out.below (((Below.refl w.heap.size w).alloc (by first | omega | (simp; done) | (simp; omega)) _).alloc (by first | omega | (simp; done) | (simp; omega)) _)) HB.out).mono ?_
    rintro e w1 ⟨rfl, hb1⟩
    have f0 := Blk.below (Blk.new (g := w.heap.size + 1) (w.alloc (.cells (arr .i64 8 (ps 1)) 76)) .u32 256 (fun _ => 0) 82 (by first | omega | (simp; done) | (simp; omega))) hb1
    have hB1 := belowChain (((Below.refl w.heap.size w).alloc (by first | omega | (simp; done) | (simp; omega)) (.cells (arr .i64 8 (ps 1)) 76)).alloc (by first | omega | (simp; done) | (simp; omega)) (.cells (arr .u32 256 (fun _ => 0)) 82)) hb1 (by first | omega | (simp; done) | (simp; omega))
    go_wp2_with (first | (with_reducible refine at_store 82 _ _ rfl ?_; refine wpList_store_arr iR rfl _ _ rfl _ rfl rfl (f0) ?_))
    exact bodyPost_ret (v := .agg (arr .u32 256 (uval 1 b))) (results_arr Tryd.underlying82 iR rfl _ _ _ rfl (f0.row _ _)) rfl ⟨rfl, below_setRow hB1 (by first | omega | (simp; done) | (simp; omega)) _⟩
  · have hg := Blk.cellv ((Blk.new (g := w.heap.size) w .i64 8 (ps 2) 76 rfl).alloc (.cells (arr .u32 256 (fun _ => 0)) 82)) 3 19 (by omega) rfl
    go_enter Tryd.func47, Tryd.ntmps47
    go_wp2_with fail
    refine (unpack20 g q c b _ hc hcm (HR.out.below (((Below.refl w.heap.size w).alloc (by first | omega | (simp; done) | (simp; omega)) _).alloc (by first | omega | (simp; done) | (simp; omega)) _)) HB.out).mono ?_
    rintro e w1 ⟨rfl, hb1⟩
    have f0 := Blk.below (Blk.new (g := w.heap.size + 1) (w.alloc (.cells (arr .i64 8 (ps 2)) 76)) .u32 256 (fun _ => 0) 82 (by first | omega | (simp; done) | (simp; omega))) hb1
    have hB1 := belowChain (((Below.refl w.heap.size w).alloc (by first | omega | (simp; done) | (simp; omega)) (.cells (arr .i64 8 (ps 2)) 76)).alloc (by first | omega | (simp; done) | (simp; omega)) (.cells (arr .u32 256 (fun _ => 0)) 82)) hb1 (by first | omega | (simp; done) | (simp; omega))
    go_wp2_with (first | (with_reducible refine at_store 82 _ _ rfl ?_; refine wpList_store_arr iR rfl _ _ rfl _ rfl rfl (f0) ?_))
    exact bodyPost_ret (v := .agg (arr .u32 256 (uval 2 b))) (results_arr Tryd.underlying82 iR rfl _ _ _ rfl (f0.row _ _)) rfl ⟨rfl, below_setRow hB1 (by first | omega | (simp; done) | (simp; omega)) _⟩



def blN (s : Nat) : Nat := if s = 0 then 262143 else 1048575
theorem blN_lt (s : Nat) (_h : s < 3) : blN s < 2 ^ 62 := by unfold blN; split <;> decide
theorem blN_dd (s : Nat) : blen 62 (blN s) = dd s := by unfold blN dd; split; exact blen_18; exact blen_20


end Go.Proofs.YtanfpnidlgejhaaDoor
