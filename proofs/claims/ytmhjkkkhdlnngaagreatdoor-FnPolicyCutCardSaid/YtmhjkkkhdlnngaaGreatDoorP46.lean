/- FnPolicyCut, part 46. -/
import Derived.Test.YtmhjkkkhdlnngaaGreatDoorP33
set_option linter.all false
set_option maxRecDepth 100000
set_option maxHeartbeats 0
namespace Go.Proofs.YtmhjkkkhdlnngaaGreatDoor
open Go.ChangeShapes Go.WideShapes Go.ChangeAt Go.RowKit Go.Proofs.Tryz
theorem k_3:(Tryz.f9.params.all (prog.readableRec ·))=true:=by kernel_rfl
theorem k_15:((Rows.fnPolicyCutRow.mapsOut==prog.mapsAmong Tryz.f9.resultTypes.toList))=true:=by kernel_rfl
theorem k_23:(Rows.fnPolicyCutRow.shortTexts.isNone)=true:=by kernel_rfl
theorem k_31:(Rows.fnPolicyCutRow.veiledFits prog Tryz.f9.params.toList (Tryz.f9.params.toList++(OpenSpec.ofChange Rows.fnPolicyCutSpec).bare.plain.varTypes prog++Tryz.f9.resultTypes.toList))=true:=by kernel_rfl
theorem k_8:((prog.stopKnobs==[]))=true:=by kernel_rfl
theorem k_20:((Rows.fnPolicyCutRow.ifacesOut==Tryz.f9.resultTypes.toList.any (prog.ifacesRec ·)))=true:=by kernel_rfl
theorem k_28:((Rows.fnPolicyCutRow.kinds==(if Rows.fnPolicyCutRow.domain.isEmpty then []else Tryz.f9.params.toList.map fun t=>match prog.underlying t with | some (.int k)=>some k | _=>none)))=true:=by kernel_rfl
end Go.Proofs.YtmhjkkkhdlnngaaGreatDoor
