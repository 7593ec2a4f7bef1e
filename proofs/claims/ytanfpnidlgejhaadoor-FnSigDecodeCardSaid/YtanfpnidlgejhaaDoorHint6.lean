/-
  Hints read: the doors.
-/
import Derived.Test.YtanfpnidlgejhaaDoorHint5
import Derived.Test.YtanfpnidlgejhaaDoorPk4
namespace Go.Proofs.YtanfpnidlgejhaaDoor
open Go.RowKit


end Go.Proofs.YtanfpnidlgejhaaDoor
