/- Part of the proof of FnAuthorizeNone: without policies no request is allowed; for every world that comes in. -/
import Derived.Test.YtaigmemiklfjoaaGreatDoorZA0
set_option linter.unusedSimpArgs false
set_option linter.unusedVariables false
set_option linter.unnecessarySimpa false
namespace Go.Proofs.YtaigmemiklfjoaaGreatDoor
open Go
theorem b1 (os : Os) (tape : Tape) : varsDone Tryz.prog 400 (varsId Tryz.prog) os tape = true := by kernel_rfl
end Go.Proofs.YtaigmemiklfjoaaGreatDoor
