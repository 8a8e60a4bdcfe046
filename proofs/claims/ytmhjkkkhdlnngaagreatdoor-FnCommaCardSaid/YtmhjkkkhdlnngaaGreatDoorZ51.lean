/- FnComma: a last comma changes nothing; for every world. Part 51. -/
import Derived.Test.YtmhjkkkhdlnngaaGreatDoorZ00
set_option linter.all false
set_option maxRecDepth 100000
set_option maxHeartbeats 40000000
namespace Go.Proofs.YtmhjkkkhdlnngaaGreatDoor
theorem lookSo:true=Tryz.prog.looks []:=by kernel_rfl
theorem stand22:Tryz.prog.wantsStandIn 22=false:=by kernel_rfl
theorem stand5:Tryz.prog.wantsStandIn 5=false:=by kernel_rfl
theorem wByText:Rows.fnCommaRow.wfByText (OpenSpec.ofChange Rows.fnCommaSpec)=true:=by kernel_rfl
theorem mainSo:Tryz.prog.mainIs=some (true, "024c4db319e1541550de9489c66de6622cf536deede84cf13ec5003370b2f236".toList):=by kernel_rfl
end Go.Proofs.YtmhjkkkhdlnngaaGreatDoor
