/- FnPolicyCut, part 43. -/
import Derived.Test.YtmhjkkkhdlnngaaGreatDoorP33
set_option linter.all false
set_option maxRecDepth 100000
set_option maxHeartbeats 0
namespace Go.Proofs.YtmhjkkkhdlnngaaGreatDoor
open Go.ChangeShapes Go.WideShapes Go.ChangeAt Go.RowKit Go.Proofs.Tryz
theorem k_4:(namedTie prog Rows.fnPolicyCutRow.named (OpenSpec.ofChange Rows.fnPolicyCutSpec).bare.vars)=true:=by kernel_rfl
theorem k_16:((Rows.fnPolicyCutRow.loops==(Tryz.f9.params.toList++(OpenSpec.ofChange Rows.fnPolicyCutSpec).bare.plain.varTypes prog).any (prog.loopsFrom ·)))=true:=by kernel_rfl
theorem k_24:(prog.stopsHeard)=true:=by kernel_rfl
end Go.Proofs.YtmhjkkkhdlnngaaGreatDoor
