/- Part of the proof of FnAuthorizeNone: without policies no request is allowed; for every world that comes in. -/
import Derived.Test.YtaigmemiklfjoaaGreatDoorZWit1
import Derived.Test.YtaigmemiklfjoaaGreatDoorZWit2
import Derived.Test.YtaigmemiklfjoaaGreatDoorZWit3
set_option linter.unusedSimpArgs false
set_option linter.unusedVariables false
set_option linter.unnecessarySimpa false
namespace Go.Proofs.YtaigmemiklfjoaaGreatDoor
open Go.ChangeShapes Go.WideShapes Go.ChangeAt Go.RowKit Go.Proofs.Exp
set_option maxRecDepth 100000
theorem k_4 : (namedTie Tryz.prog Rows.fnAuthorizeNoneRow.named (OpenSpec.ofChange Rows.fnAuthorizeNoneSpec).bare.vars) = true := by kernel_rfl
theorem k_16 : ((Rows.fnAuthorizeNoneRow.loops == (Tryz.f3.params.toList ++ (OpenSpec.ofChange Rows.fnAuthorizeNoneSpec).bare.plain.varTypes Tryz.prog).any (Tryz.prog.loopsFrom ·))) = true := by kernel_rfl
theorem k_24 : (Tryz.prog.stopsHeard) = true := by kernel_rfl
end Go.Proofs.YtaigmemiklfjoaaGreatDoor
