/- FnPolicyCut, part 39. -/
import Derived.Test.YtmhjkkkhdlnngaaGreatDoorP33
set_option linter.all false
set_option maxRecDepth 100000
set_option maxHeartbeats 0
namespace Go.Proofs.YtmhjkkkhdlnngaaGreatDoor
open Go.ChangeShapes Go.WideShapes Go.ChangeAt Go.RowKit Go.Proofs.Tryz
theorem k_5:((Rows.fnPolicyCutRow.stops==[]))=true:=by kernel_rfl
theorem k_17:((Rows.fnPolicyCutRow.wideKeys==(Tryz.f9.params.toList++(OpenSpec.ofChange Rows.fnPolicyCutSpec).bare.plain.varTypes prog++Tryz.f9.resultTypes.toList).any (prog.wideKeysFrom ·)))=true:=by kernel_rfl
theorem k_25:(prog.mayEnter)=true:=by kernel_rfl
end Go.Proofs.YtmhjkkkhdlnngaaGreatDoor
