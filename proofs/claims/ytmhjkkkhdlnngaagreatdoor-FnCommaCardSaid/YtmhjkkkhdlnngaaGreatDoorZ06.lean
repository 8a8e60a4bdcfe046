/- FnComma: a last comma changes nothing; for every world. Part 6. -/
import Derived.Test.YtmhjkkkhdlnngaaGreatDoorZ00
set_option linter.all false
set_option maxRecDepth 100000
set_option maxHeartbeats 40000000
namespace Go.Proofs.YtmhjkkkhdlnngaaGreatDoor
open Go.ChangeShapes Go.WideShapes Go.ChangeAt Go.RowKit
theorem j_wf:Rows.fnCommaRow.wf (OpenSpec.ofChange Rows.fnCommaSpec)=true:=by kernel_rfl
theorem j_named2:Tryz.pinned.checked.prog.funcNamed Rows.fnCommaRow.func=some 3:=by kernel_rfl
end Go.Proofs.YtmhjkkkhdlnngaaGreatDoor
