/- FnDecodeAll, part 48. -/
import Derived.Test.YtmhjkkkhdlnngaaGreatDoorZ39
set_option linter.all false
set_option maxRecDepth 100000
set_option maxHeartbeats 0
namespace Go.Proofs.YtmhjkkkhdlnngaaGreatDoor
open Go.ChangeShapes Go.WideShapes Go.ChangeAt Go.RowKit Go.Proofs.Tryz
theorem k_6:((prog.stops==[]))=true:=by kernel_rfl
theorem k_18:((OpenSpec.ofChange Rows.fnDecodeAllSpec).bare.vars.all (prog.varReadable ·))=true:=by kernel_rfl
theorem k_26:((Rows.fnDecodeAllRow.lifted==prog.liftsFinal))=true:=by kernel_rfl
theorem k_8:((prog.stopKnobs==[]))=true:=by kernel_rfl
theorem k_20:((Rows.fnDecodeAllRow.ifacesOut==Tryz.f4.resultTypes.toList.any (prog.ifacesRec ·)))=true:=by kernel_rfl
theorem k_28:((Rows.fnDecodeAllRow.kinds==(if Rows.fnDecodeAllRow.domain.isEmpty then []else Tryz.f4.params.toList.map fun t=>match prog.underlying t with | some (.int k)=>some k | _=>none)))=true:=by kernel_rfl
theorem k_14:((Rows.fnDecodeAllRow.ifaces==(Tryz.f4.params.toList++(OpenSpec.ofChange Rows.fnDecodeAllSpec).bare.plain.varTypes prog).any (prog.ifacesRec ·)))=true:=by kernel_rfl
theorem k_22:((Rows.fnDecodeAllRow.plainKeys==prog.plainKeys))=true:=by kernel_rfl
theorem k_30:((Rows.fnDecodeAllRow.veiled==(Tryz.f4.params.toList++(OpenSpec.ofChange Rows.fnDecodeAllSpec).bare.plain.varTypes prog++Tryz.f4.resultTypes.toList).any (prog.veiledRec ·)))=true:=by kernel_rfl
end Go.Proofs.YtmhjkkkhdlnngaaGreatDoor
namespace Go.Proofs.YtmhjkkkhdlnngaaGreatDoor
open Go.Proofs.Tryz
theorem lookSo:true=prog.looks []:=by kernel_rfl
theorem stand9:prog.wantsStandIn 9=false:=by kernel_rfl
theorem stand38:prog.wantsStandIn 38=false:=by kernel_rfl
theorem wByText:Rows.fnDecodeAllRow.wfByText (OpenSpec.ofChange Rows.fnDecodeAllSpec)=true:=by kernel_rfl
theorem mainSo:prog.mainIs=some (true, "024c4db319e1541550de9489c66de6622cf536deede84cf13ec5003370b2f236".toList):=by kernel_rfl
end Go.Proofs.YtmhjkkkhdlnngaaGreatDoor
