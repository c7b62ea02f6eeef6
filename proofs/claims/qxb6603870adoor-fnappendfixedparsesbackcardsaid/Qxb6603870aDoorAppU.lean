import Derived.Test.Qxb6603870aDoorShelf
import Derived.Test.Qxb6603870aDoorDigits
import Derived.Lib.Walk
import Derived.Lib.ItoaWalk
import Derived.Lib.ItoaMem
import Derived.Lib.AppendIntMem
import Derived.Lib.AppendStr
import Derived.Lib.Hide
import Derived.OwnWalk
import Derived.BigCall
import Derived.BigGuard
import Derived.CellFam
namespace Go.Proofs.Qxb6603870aDoor
open Go.RowKit Go.Sort
set_option linter.unusedVariables false

theorem Tryd.i5 : (Tryd.prog.info? 5).map (fun i => (i.zero, i.size, i.bytes)) = some (some (.int .u8 0), 1, 1) := by kernel_rfl

end Go.Proofs.Qxb6603870aDoor
