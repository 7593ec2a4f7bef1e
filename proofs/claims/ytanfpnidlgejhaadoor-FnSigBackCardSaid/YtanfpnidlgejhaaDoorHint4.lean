/-
  Hints as bytes: the law.
-/
import Derived.Test.YtanfpnidlgejhaaDoorHint3
import Derived.Test.YtanfpnidlgejhaaDoorHeld
namespace Go.Proofs.YtanfpnidlgejhaaDoor
open Go.RowKit

theorem quiet_load_s {P : Program} {C : World → Prop} {o : Oper} {a : Act} {K : Act → Prop} {k : IntKind} {n : Nat} {z : Nat → Int} {ty t : TypeId} {d : TypeDesc} (hu : P.underlying ty = some d) (hd : (match d with | .struct _ | .array _ _ => true | _ => false) = true) (hi : (P.info? ty).map (·.size) = some n) (x : Operand) (ho : o.op = .load ty x) (g : Nat) (hx : a.eval x = .pointer (some ⟨g, 0, none⟩))
    (hg : ∀ w, C w → Blk w g k n z t) (hk : K (a.put o.dst (.agg (arr k n z)))) : o.quiet P a C K :=
  quiet_load_row ty x ho g hx t _ _ _ hg hu hd (by rw [arr_size]; exact hi) hk


end Go.Proofs.YtanfpnidlgejhaaDoor
