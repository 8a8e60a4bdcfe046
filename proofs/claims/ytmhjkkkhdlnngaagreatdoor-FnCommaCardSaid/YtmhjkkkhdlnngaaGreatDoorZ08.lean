/- FnComma: a last comma changes nothing; for every world. Part 8. -/
import Derived.Test.YtmhjkkkhdlnngaaGreatDoorZ00
set_option linter.all false
set_option maxRecDepth 100000
set_option maxHeartbeats 40000000
namespace Go.Proofs.YtmhjkkkhdlnngaaGreatDoor
open Go.ChangeShapes Go.WideShapes Go.ChangeAt Go.RowKit
theorem k_3:(Tryz.f3.params.all (Tryz.prog.readableRec ·))=true:=by kernel_rfl
theorem k_15:((Rows.fnCommaRow.mapsOut==Tryz.prog.mapsAmong Tryz.f3.resultTypes.toList))=true:=by kernel_rfl
theorem k_23:(Rows.fnCommaRow.shortTexts.isNone)=true:=by kernel_rfl
theorem k_31:(Rows.fnCommaRow.veiledFits Tryz.prog Tryz.f3.params.toList (Tryz.f3.params.toList++(OpenSpec.ofChange Rows.fnCommaSpec).bare.plain.varTypes Tryz.prog++Tryz.f3.resultTypes.toList))=true:=by kernel_rfl
end Go.Proofs.YtmhjkkkhdlnngaaGreatDoor
