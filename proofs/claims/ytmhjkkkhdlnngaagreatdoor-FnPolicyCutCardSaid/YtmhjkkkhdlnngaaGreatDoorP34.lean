/- FnPolicyCut, part 34. -/
import Derived.Test.YtmhjkkkhdlnngaaGreatDoorP33
set_option linter.all false
set_option maxRecDepth 100000
set_option maxHeartbeats 0
namespace Go.Proofs.YtmhjkkkhdlnngaaGreatDoor
open Go.ChangeShapes Go.WideShapes Go.ChangeAt Go.RowKit Go.Proofs.Tryz
theorem Qgv:(Rows.fnPolicyCutRow.inPlace==prog.inPlace 9)=true:=by kernel_rfl
end Go.Proofs.YtmhjkkkhdlnngaaGreatDoor
