/-
  Two equal arrays of integers compare as equal.
-/
import Derived.Test.YtanfpnidlgejhaaDoorArr
import Derived.Laws.StructEq
namespace Go.Proofs.YtanfpnidlgejhaaDoor
open Go.RowKit
section
variable {P : Program}
theorem run_part_arr {e : TypeId} (ha : ∀ w, (isAgg e).run P w = .ok false w) (k : IntKind) (n : Nat) (z : Nat → Int) (i : Nat) (hi : i < n) (w : World) : (part e (arr k n z) i).run P w = .ok (.int k (z i)) w := by
  simp [part, ha, arr_get k n z i hi]
theorem run_equalIn_arr (d : Nat) {t e : TypeId} {n : Nat} {k : IntKind} (ht : P.underlying t = some (.array n e)) (he : P.underlying e = some (.int k)) (hs : ∀ w, (sizeOf e).run P w = .ok 1 w) (ha : ∀ w, (isAgg e).run P w = .ok false w) (z : Nat → Int) (w : World) :
    (Op.equalIn (d + 1 + 1) t (.agg (arr k n z)) (.agg (arr k n z))).run P w = .ok true w := by
  rw [Op.equalIn]
  simp only [Sem.run_bind, run_underlying ht, Result.andThen_ok, hs, Nat.mul_one]
  rw [Std.Legacy.Range.forIn_eq_forIn_range']
  have hl : ∀ i ∈ List.range' [:n].start [:n].size [:n].step, i < n := by
    intro i hi
    simpa using hi
  generalize List.range' [:n].start [:n].size [:n].step = l at hl
  have key : ∀ (l : List Nat), (∀ i ∈ l, i < n) → ((forIn l ((none : Option Bool), ()) fun i (_ : Option Bool × Unit) => do
      let a ← part e (arr k n z) i
      let b ← part e (arr k n z) i
      let c ← Op.equalIn (d + 1) e a b
      if (!c) = true then pure (ForInStep.done (some false, ())) else pure (ForInStep.yield (none, ())) : Sem (Option Bool × Unit))).run P w = .ok (none, ()) w := by
    intro l hl
    induction l with
    | nil => simp
    | cons i l ih =>
      simp only [List.forIn_cons, Sem.run_bind, run_part_arr ha k n z i (hl i (by simp)), Result.andThen_ok, run_equalIn_int w d e k k _ _ he]
      have := ih (fun j hj => hl j (by simp [hj]))
      simpa using this
  rw [key l hl]
  rfl
theorem run_eql_arr {t e : TypeId} {n : Nat} {k : IntKind} (ht : P.underlying t = some (.array n e)) (he : P.underlying e = some (.int k)) (hs : ∀ w, (sizeOf e).run P w = .ok 1 w) (ha : ∀ w, (isAgg e).run P w = .ok false w) (z y : Nat → Int) (hzy : ∀ i, i < n → z i = y i) (w : World) :
    (binOp .eql t (.agg (arr k n z)) (.agg (arr k n y))).run P w = .ok (.bool true) w := by
  rw [← arr_congr hzy, run_eql_struct, run_equalIn_arr 9998 ht he hs ha z w]
  rfl
end
end Go.Proofs.YtanfpnidlgejhaaDoor
