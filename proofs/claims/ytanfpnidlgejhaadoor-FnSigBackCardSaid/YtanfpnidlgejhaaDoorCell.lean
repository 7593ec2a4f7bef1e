/-
  A load of one cell, in a class of worlds.
-/
import Derived.Test.YtanfpnidlgejhaaDoorRegion
namespace Go.Proofs.YtanfpnidlgejhaaDoor
open Go.RowKit
section
variable {P : Program} {C : World → Prop}
theorem quiet_load_int {o : Oper} {a : Act} {K : Act → Prop} (ty : TypeId) (x : Operand) (ho : o.op = .load ty x) (g i : Nat) (hx : a.eval x = .pointer (some ⟨g, i, none⟩)) (k : IntKind) (v : Int) (ha : ∀ w, (isAgg ty).run P w = .ok false w)
    (hg : ∀ w, C w → w.cell? ⟨g, i, none⟩ = some (.int k v)) (hk : K (a.put o.dst (.int k v))) : o.quiet P a C K :=
  ⟨.int k v, fun w hw => by
    have h := hg w hw
    unfold Oper.quietAt execOp
    simp [ho, hx, Instr.loadAt, Instr.sureAddr, loadVar, ha, h]
    exact ⟨rfl, rfl⟩, hk⟩
end
end Go.Proofs.YtanfpnidlgejhaaDoor
