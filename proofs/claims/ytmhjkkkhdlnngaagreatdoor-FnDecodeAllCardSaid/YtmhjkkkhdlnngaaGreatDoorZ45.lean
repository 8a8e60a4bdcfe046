/- FnDecodeAll, part 45. -/
import Derived.Test.YtmhjkkkhdlnngaaGreatDoorZ39
set_option linter.all false
set_option maxRecDepth 100000
set_option maxHeartbeats 0
namespace Go.Proofs.YtmhjkkkhdlnngaaGreatDoor
open Go.ChangeShapes Go.WideShapes Go.ChangeAt Go.RowKit Go.Proofs.Tryz
theorem QeO:mapsRowed prog=true:=by kernel_rfl
end Go.Proofs.YtmhjkkkhdlnngaaGreatDoor
namespace Go.Proofs.YtmhjkkkhdlnngaaGreatDoor
open Go.ChangeShapes Go.WideShapes Go.ChangeAt Go.RowKit
theorem j_inst:Tryz.f4.isInstance Tryz.pinned.checked.prog Rows.fnDecodeAllRow.origin Rows.fnDecodeAllRow.targs:=of_decide_eq_true (by kernel_rfl)
theorem j_wrap:Tryz.f4.isWrapper Tryz.pinned.checked.prog Rows.fnDecodeAllRow.wrapper Rows.fnDecodeAllRow.mainSum:=by unfold Func.isWrapper;first | (rw[if_pos (by decide +kernel)];kernel_rfl) | (rw[if_neg (by decide +kernel)];exact⟨rfl,rfl⟩)
end Go.Proofs.YtmhjkkkhdlnngaaGreatDoor
