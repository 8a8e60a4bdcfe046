/- FnPolicyCut, part 45. -/
import Derived.Test.YtmhjkkkhdlnngaaGreatDoorP33
set_option linter.all false
set_option maxRecDepth 100000
set_option maxHeartbeats 0
namespace Go.Proofs.YtmhjkkkhdlnngaaGreatDoor
open Go.ChangeShapes Go.WideShapes Go.ChangeAt Go.RowKit Go.Proofs.Tryz
theorem k_6:((prog.stops==[]))=true:=by kernel_rfl
theorem k_18:((OpenSpec.ofChange Rows.fnPolicyCutSpec).bare.vars.all (prog.varReadable ·))=true:=by kernel_rfl
theorem k_26:((Rows.fnPolicyCutRow.lifted==prog.liftsFinal))=true:=by kernel_rfl
theorem k_13:((Rows.fnPolicyCutRow.maps==(Tryz.f9.params.toList++(OpenSpec.ofChange Rows.fnPolicyCutSpec).bare.plain.varTypes prog).any (prog.mapsRec ·)))=true:=by kernel_rfl
theorem k_21:((Rows.fnPolicyCutRow.loopsOut==Tryz.f9.resultTypes.toList.any (prog.loopsFrom ·)))=true:=by kernel_rfl
theorem k_29:((Rows.fnPolicyCutRow.pinned==Rows.fnPolicyCutRow.pinnedBy))=true:=by kernel_rfl
end Go.Proofs.YtmhjkkkhdlnngaaGreatDoor
