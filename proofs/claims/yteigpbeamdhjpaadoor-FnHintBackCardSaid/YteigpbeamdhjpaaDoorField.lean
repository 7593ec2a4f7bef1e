/-
  Contracts of the field functions: what each returns for numbers below the prime.
-/
import Derived.Test.YteigpbeamdhjpaaDoorProg
import Derived.Test.YteigpbeamdhjpaaDoorPlain
import Derived.WalkKit
import Derived.WalkLawsBesides
import Derived.IntWalk
import Derived.Lib.Hide
namespace Go.Proofs.YteigpbeamdhjpaaDoor
open Go.RowKit












/-! ### Choices -/



/-! ### The reference's numbers -/



end Go.Proofs.YteigpbeamdhjpaaDoor
