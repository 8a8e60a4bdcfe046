/- FnComma: a last comma changes nothing; for every world. Part 7. -/
import Derived.Test.YtmhjkkkhdlnngaaGreatDoorZ00
set_option linter.all false
set_option maxRecDepth 100000
set_option maxHeartbeats 40000000
namespace Go.Proofs.YtmhjkkkhdlnngaaGreatDoor
open Go.ChangeShapes Go.WideShapes Go.ChangeAt Go.RowKit
theorem j_inst:Tryz.f3.isInstance Tryz.pinned.checked.prog Rows.fnCommaRow.origin Rows.fnCommaRow.targs:=of_decide_eq_true (by kernel_rfl)
theorem j_wrap:Tryz.f3.isWrapper Tryz.pinned.checked.prog Rows.fnCommaRow.wrapper Rows.fnCommaRow.mainSum:=by unfold Func.isWrapper;first | (rw[if_pos (by decide +kernel)];kernel_rfl) | (rw[if_neg (by decide +kernel)];exact⟨rfl,rfl⟩)
end Go.Proofs.YtmhjkkkhdlnngaaGreatDoor
