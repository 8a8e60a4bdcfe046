/- FnPolicyCut, part 41. -/
import Derived.Test.YtmhjkkkhdlnngaaGreatDoorP33
set_option linter.all false
set_option maxRecDepth 100000
set_option maxHeartbeats 0
namespace Go.Proofs.YtmhjkkkhdlnngaaGreatDoor
open Go.Proofs.Tryz
theorem lookSo:true=prog.looks []:=by kernel_rfl
theorem stand9:prog.wantsStandIn 9=false:=by kernel_rfl
theorem stand71:prog.wantsStandIn 71=false:=by kernel_rfl
theorem wByText:Rows.fnPolicyCutRow.wfByText (OpenSpec.ofChange Rows.fnPolicyCutSpec)=true:=by kernel_rfl
theorem mainSo:prog.mainIs=some (true, "024c4db319e1541550de9489c66de6622cf536deede84cf13ec5003370b2f236".toList):=by kernel_rfl
end Go.Proofs.YtmhjkkkhdlnngaaGreatDoor
namespace Go.Proofs.YtmhjkkkhdlnngaaGreatDoor
open Go.ChangeShapes Go.WideShapes Go.ChangeAt Go.RowKit Go.Proofs.Tryz
theorem k_14:((Rows.fnPolicyCutRow.ifaces==(Tryz.f9.params.toList++(OpenSpec.ofChange Rows.fnPolicyCutSpec).bare.plain.varTypes prog).any (prog.ifacesRec ·)))=true:=by kernel_rfl
theorem k_22:((Rows.fnPolicyCutRow.plainKeys==prog.plainKeys))=true:=by kernel_rfl
theorem k_30:((Rows.fnPolicyCutRow.veiled==(Tryz.f9.params.toList++(OpenSpec.ofChange Rows.fnPolicyCutSpec).bare.plain.varTypes prog++Tryz.f9.resultTypes.toList).any (prog.veiledRec ·)))=true:=by kernel_rfl
theorem QeO:mapsRowed prog=true:=by kernel_rfl
theorem k_7:((Rows.fnPolicyCutRow.knobs==[]))=true:=by kernel_rfl
theorem k_19:(Tryz.f9.resultTypes.all (fun t=>prog.readableRec t&&decide (t<prog.types.size)))=true:=by kernel_rfl
theorem k_27:((prog.make==some Rows.fnPolicyCutRow.make))=true:=by kernel_rfl
end Go.Proofs.YtmhjkkkhdlnngaaGreatDoor
