/- FnPolicyCut, part 40. -/
import Derived.Test.YtmhjkkkhdlnngaaGreatDoorP33
set_option linter.all false
set_option maxRecDepth 100000
set_option maxHeartbeats 0
namespace Go.Proofs.YtmhjkkkhdlnngaaGreatDoor
open Go.ChangeShapes Go.WideShapes Go.ChangeAt Go.RowKit
theorem j_wf:Rows.fnPolicyCutRow.wf (OpenSpec.ofChange Rows.fnPolicyCutSpec)=true:=by kernel_rfl
theorem j_named2:Tryz.pinned.checked.prog.funcNamed Rows.fnPolicyCutRow.func=some 9:=by kernel_rfl
end Go.Proofs.YtmhjkkkhdlnngaaGreatDoor
