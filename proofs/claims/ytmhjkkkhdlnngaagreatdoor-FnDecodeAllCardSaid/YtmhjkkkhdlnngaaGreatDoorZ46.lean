/- FnDecodeAll, part 46. -/
import Derived.Test.YtmhjkkkhdlnngaaGreatDoorZ39
set_option linter.all false
set_option maxRecDepth 100000
set_option maxHeartbeats 0
namespace Go.Proofs.YtmhjkkkhdlnngaaGreatDoor
open Go.ChangeShapes Go.WideShapes Go.ChangeAt Go.RowKit Go.Proofs.Tryz
theorem k_4:(namedTie prog Rows.fnDecodeAllRow.named (OpenSpec.ofChange Rows.fnDecodeAllSpec).bare.vars)=true:=by kernel_rfl
theorem k_16:((Rows.fnDecodeAllRow.loops==(Tryz.f4.params.toList++(OpenSpec.ofChange Rows.fnDecodeAllSpec).bare.plain.varTypes prog).any (prog.loopsFrom ·)))=true:=by kernel_rfl
theorem k_24:(prog.stopsHeard)=true:=by kernel_rfl
end Go.Proofs.YtmhjkkkhdlnngaaGreatDoor
