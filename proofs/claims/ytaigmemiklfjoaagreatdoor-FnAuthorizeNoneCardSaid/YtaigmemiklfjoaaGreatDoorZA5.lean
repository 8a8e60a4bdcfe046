/- Part of the proof of FnAuthorizeNone: without policies no request is allowed; for every world that comes in. -/
import Derived.Test.YtaigmemiklfjoaaGreatDoorZA0
set_option linter.unusedSimpArgs false
set_option linter.unusedVariables false
set_option linter.unnecessarySimpa false
namespace Go.Proofs.YtaigmemiklfjoaaGreatDoor
open Go
theorem a4 : laidL.map (fun x => Tryz.prog.kindOfLater x.1) = ([.sentinel, .sentinel, .data, .sentinel, .sentinel, .sentinel, .data, .data, .data] : List LaidKind).map some := by kernel_rfl
theorem a5 : (Tryz.prog.funcNamed "gosem.cut.vars").isSome = true := by kernel_rfl
theorem a6 : varsNamedLaterB Tryz.prog (varsId Tryz.prog) laidL = true := by kernel_rfl
end Go.Proofs.YtaigmemiklfjoaaGreatDoor
