/-
  A public key read: the doors.
-/
import Derived.Test.YtanfpnidlgejhaaDoorPk3
import Derived.Test.YtanfpnidlgejhaaDoorUnpack3
namespace Go.Proofs.YtanfpnidlgejhaaDoor
open Go.RowKit




end Go.Proofs.YtanfpnidlgejhaaDoor
