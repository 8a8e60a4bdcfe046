/- Part of the proof of FnAuthorizeNone: without policies no request is allowed; for every world that comes in. -/
import Derived.Test.YtaigmemiklfjoaaGreatDoorZWit1
import Derived.Test.YtaigmemiklfjoaaGreatDoorZWit2
import Derived.Test.YtaigmemiklfjoaaGreatDoorZWit3
set_option linter.unusedSimpArgs false
set_option linter.unusedVariables false
set_option linter.unnecessarySimpa false
namespace Go.Proofs.YtaigmemiklfjoaaGreatDoor
open Go.ChangeShapes Go.WideShapes Go.ChangeAt Go.RowKit Go.Proofs.Exp
set_option maxRecDepth 100000

theorem j_wf : Rows.fnAuthorizeNoneRow.wf (OpenSpec.ofChange Rows.fnAuthorizeNoneSpec) = true := by kernel_rfl
theorem j_named2 : Tryz.pinned.checked.prog.funcNamed Rows.fnAuthorizeNoneRow.func = some 3 := by kernel_rfl
end Go.Proofs.YtaigmemiklfjoaaGreatDoor
