/- Part of the proof of FnAuthorizeNone: without policies no request is allowed; for every world that comes in. -/
import Derived.Test.YtaigmemiklfjoaaGreatDoorZA0
set_option linter.unusedSimpArgs false
set_option linter.unusedVariables false
set_option linter.unnecessarySimpa false
namespace Go.Proofs.YtaigmemiklfjoaaGreatDoor
open Go
theorem a1 : Tryz.prog.worded (varsWordLater true) = true := by kernel_rfl
theorem a2 : Tryz.prog.worded (varsWordLater !true) = false := by kernel_rfl
theorem a3 : Tryz.prog.worded rootWordLater = true := by kernel_rfl
end Go.Proofs.YtaigmemiklfjoaaGreatDoor
