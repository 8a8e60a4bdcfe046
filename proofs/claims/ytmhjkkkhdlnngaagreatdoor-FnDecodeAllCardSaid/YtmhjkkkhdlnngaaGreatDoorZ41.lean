/- FnDecodeAll, part 41. -/
import Derived.Test.YtmhjkkkhdlnngaaGreatDoorZ39
set_option linter.all false
set_option maxRecDepth 100000
set_option maxHeartbeats 0
namespace Go.Proofs.YtmhjkkkhdlnngaaGreatDoor
open Go.ChangeShapes Go.WideShapes Go.ChangeAt Go.RowKit Go.Proofs.Tryz
theorem j_unf:(Rows.fnDecodeAllRow.unfollowed==prog.unfollowed 4)=true:=by kernel_rfl
end Go.Proofs.YtmhjkkkhdlnngaaGreatDoor
