/-
  What 'reduced' of the laws tells: whether all numbers of a list are below the prime.
-/
import Derived.Test.YteigpbeamdhjpaaDoorField
import Derived.Below
import Derived.Deep.WholeRow
namespace Go.Proofs.YteigpbeamdhjpaaDoor
open Go.RowKit



end Go.Proofs.YteigpbeamdhjpaaDoor
