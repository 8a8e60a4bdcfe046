/- Part of the proof of FnAuthorizeNone: without policies no request is allowed; for every world that comes in. -/
import Derived.Test.YtaigmemiklfjoaaGreatDoorZRow
set_option linter.unusedSimpArgs false
set_option linter.unusedVariables false
set_option linter.unnecessarySimpa false
namespace Go.Proofs.YtaigmemiklfjoaaGreatDoor
open Go.ChangeShapes Go.WideShapes Go.ChangeAt Go.RowKit Go.Proofs.Exp
set_option maxRecDepth 100000
theorem wit_vars (os : Os) : ((laidWorld os).forCall (fun _ _ => 0) ⟨#[], #[noWorld], []⟩).variablesRefB Tryz.prog = true := by kernel_rfl
theorem wit_run (os : Os) : (((laidWorld os).forCall (fun _ _ => 0) ⟨#[], #[noWorld], []⟩).heap.toList.drop Tryz.prog.globals.size).take ((begin Tryz.prog (fun _ _ => 0) default).world.heap.size - Tryz.prog.globals.size) =
      (begin Tryz.prog (fun _ _ => 0) default).world.heap.toList.drop Tryz.prog.globals.size := by kernel_rfl
theorem wit_ok (os : Os) : Input.okWideB Tryz.prog ((laidWorld os).forCall (fun _ _ => 0) ⟨#[], #[noWorld], []⟩) 3 ⟨#[], #[noWorld], []⟩ = true := by kernel_rfl
end Go.Proofs.YtaigmemiklfjoaaGreatDoor
