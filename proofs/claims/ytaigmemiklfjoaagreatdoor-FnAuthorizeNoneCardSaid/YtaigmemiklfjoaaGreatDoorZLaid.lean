/- Part of the proof of FnAuthorizeNone: without policies no request is allowed; for every world that comes in. -/
import Derived.Test.YtaigmemiklfjoaaGreatDoorZVal24
import Derived.DeepKeys5
set_option linter.unusedSimpArgs false
set_option linter.unusedVariables false
set_option linter.unnecessarySimpa false
namespace Go.Proofs.Exp
open Go.RowKit Go.Maps Go.WideMaps
theorem laidT : laidOutB Tryz.prog = true := by kernel_rfl
end Go.Proofs.Exp
