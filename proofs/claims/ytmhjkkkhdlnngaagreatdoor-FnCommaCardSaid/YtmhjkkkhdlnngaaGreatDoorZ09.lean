/- FnComma: a last comma changes nothing; for every world. Part 9. -/
import Derived.Test.YtmhjkkkhdlnngaaGreatDoorZ00
set_option linter.all false
set_option maxRecDepth 100000
set_option maxHeartbeats 40000000
namespace Go.Proofs.YtmhjkkkhdlnngaaGreatDoor
open Go.ChangeShapes Go.WideShapes Go.ChangeAt Go.RowKit
theorem k_4:(namedTie Tryz.prog Rows.fnCommaRow.named (OpenSpec.ofChange Rows.fnCommaSpec).bare.vars)=true:=by kernel_rfl
theorem k_16:((Rows.fnCommaRow.loops==(Tryz.f3.params.toList++(OpenSpec.ofChange Rows.fnCommaSpec).bare.plain.varTypes Tryz.prog).any (Tryz.prog.loopsFrom ·)))=true:=by kernel_rfl
theorem k_24:(Tryz.prog.stopsHeard)=true:=by kernel_rfl
end Go.Proofs.YtmhjkkkhdlnngaaGreatDoor
