/- Part of the proof of FnAuthorizeNone: without policies no request is allowed; for every world that comes in. -/
import Derived.Test.YtaigmemiklfjoaaGreatDoorZWit1
import Derived.Test.YtaigmemiklfjoaaGreatDoorZWit2
import Derived.Test.YtaigmemiklfjoaaGreatDoorZWit3
set_option linter.unusedSimpArgs false
set_option linter.unusedVariables false
set_option linter.unnecessarySimpa false
namespace Go.Proofs.YtaigmemiklfjoaaGreatDoor
open Go.ChangeShapes Go.WideShapes Go.ChangeAt Go.RowKit Go.Proofs.Exp
set_option maxRecDepth 100000

theorem j_inPlace : (Rows.fnAuthorizeNoneRow.inPlace == Tryz.prog.inPlace 3) = true := by kernel_rfl
end Go.Proofs.YtaigmemiklfjoaaGreatDoor
