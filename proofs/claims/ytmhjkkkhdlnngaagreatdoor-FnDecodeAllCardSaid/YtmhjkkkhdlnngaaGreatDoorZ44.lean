/- FnDecodeAll, part 44. -/
import Derived.Test.YtmhjkkkhdlnngaaGreatDoorZ39
set_option linter.all false
set_option maxRecDepth 100000
set_option maxHeartbeats 0
namespace Go.Proofs.YtmhjkkkhdlnngaaGreatDoor
open Go.ChangeShapes Go.WideShapes Go.ChangeAt Go.RowKit Go.Proofs.Tryz
theorem j_named:(Rows.fnDecodeAllRow.named==prog.varsNamed 4)=true:=by kernel_rfl
end Go.Proofs.YtmhjkkkhdlnngaaGreatDoor
namespace Go.Proofs.YtmhjkkkhdlnngaaGreatDoor
open Go.ChangeShapes Go.WideShapes Go.ChangeAt Go.RowKit
theorem j_wf:Rows.fnDecodeAllRow.wf (OpenSpec.ofChange Rows.fnDecodeAllSpec)=true:=by kernel_rfl
theorem j_named2:Tryz.pinned.checked.prog.funcNamed Rows.fnDecodeAllRow.func=some 4:=by kernel_rfl
end Go.Proofs.YtmhjkkkhdlnngaaGreatDoor
namespace Go.Proofs.YtmhjkkkhdlnngaaGreatDoor
open Go.ChangeShapes Go.WideShapes Go.ChangeAt Go.RowKit Go.Proofs.Tryz
theorem k_3:(Tryz.f4.params.all (prog.readableRec ·))=true:=by kernel_rfl
theorem k_15:((Rows.fnDecodeAllRow.mapsOut==prog.mapsAmong Tryz.f4.resultTypes.toList))=true:=by kernel_rfl
theorem k_23:(Rows.fnDecodeAllRow.shortTexts.isNone)=true:=by kernel_rfl
theorem k_31:(Rows.fnDecodeAllRow.veiledFits prog Tryz.f4.params.toList (Tryz.f4.params.toList++(OpenSpec.ofChange Rows.fnDecodeAllSpec).bare.plain.varTypes prog++Tryz.f4.resultTypes.toList))=true:=by kernel_rfl
end Go.Proofs.YtmhjkkkhdlnngaaGreatDoor
