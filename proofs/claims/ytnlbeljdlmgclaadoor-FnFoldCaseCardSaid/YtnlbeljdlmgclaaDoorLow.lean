/- spec.Lower and spec.Upper turn letters of one byte. -/
import Derived.Test.YtnlbeljdlmgclaaDoorKinP
import Derived.Test.YtnlbeljdlmgclaaDoorProg
import Derived.Test.YtnlbeljdlmgclaaDoorWorlds
import Derived.WalkKit
import Derived.Lib.Hide
namespace Go.Proofs.YtnlbeljdlmgclaaDoor
open Go.RowKit Go.Lib Go.Ftx

end Go.Proofs.YtnlbeljdlmgclaaDoor
