/- FnComma: a last comma changes nothing; for every world. Part 10. -/
import Derived.Test.YtmhjkkkhdlnngaaGreatDoorZ00
set_option linter.all false
set_option maxRecDepth 100000
set_option maxHeartbeats 40000000
namespace Go.Proofs.YtmhjkkkhdlnngaaGreatDoor
open Go.ChangeShapes Go.WideShapes Go.ChangeAt Go.RowKit
theorem k_5:((Rows.fnCommaRow.stops==[]))=true:=by kernel_rfl
theorem k_17:((Rows.fnCommaRow.wideKeys==(Tryz.f3.params.toList++(OpenSpec.ofChange Rows.fnCommaSpec).bare.plain.varTypes Tryz.prog++Tryz.f3.resultTypes.toList).any (Tryz.prog.wideKeysFrom ·)))=true:=by kernel_rfl
theorem k_25:(Tryz.prog.mayEnter)=true:=by kernel_rfl
end Go.Proofs.YtmhjkkkhdlnngaaGreatDoor
