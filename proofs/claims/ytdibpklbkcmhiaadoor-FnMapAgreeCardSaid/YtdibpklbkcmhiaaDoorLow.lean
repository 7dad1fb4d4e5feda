/- spec.Lower and spec.Upper turn letters of one byte. -/
import Derived.Test.YtdibpklbkcmhiaaDoorKinP
import Derived.Test.YtdibpklbkcmhiaaDoorProg
import Derived.Test.YtdibpklbkcmhiaaDoorWorlds
import Derived.WalkKit
import Derived.Lib.Hide
namespace Go.Proofs.YtdibpklbkcmhiaaDoor
open Go.RowKit Go.Lib Go.Ftx

end Go.Proofs.YtdibpklbkcmhiaaDoor
