/- FnDecodeAll, part 47. -/
import Derived.Test.YtmhjkkkhdlnngaaGreatDoorZ39
set_option linter.all false
set_option maxRecDepth 100000
set_option maxHeartbeats 0
namespace Go.Proofs.YtmhjkkkhdlnngaaGreatDoor
open Go.ChangeShapes Go.WideShapes Go.ChangeAt Go.RowKit Go.Proofs.Tryz
theorem k_5:((Rows.fnDecodeAllRow.stops==[]))=true:=by kernel_rfl
theorem k_17:((Rows.fnDecodeAllRow.wideKeys==(Tryz.f4.params.toList++(OpenSpec.ofChange Rows.fnDecodeAllSpec).bare.plain.varTypes prog++Tryz.f4.resultTypes.toList).any (prog.wideKeysFrom ·)))=true:=by kernel_rfl
theorem k_25:(prog.mayEnter)=true:=by kernel_rfl
end Go.Proofs.YtmhjkkkhdlnngaaGreatDoor
