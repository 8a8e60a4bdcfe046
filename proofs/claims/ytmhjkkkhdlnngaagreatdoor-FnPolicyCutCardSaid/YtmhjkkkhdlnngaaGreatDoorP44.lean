/- FnPolicyCut, part 44. -/
import Derived.Test.YtmhjkkkhdlnngaaGreatDoorP37
set_option linter.all false
set_option maxRecDepth 100000
set_option maxHeartbeats 0
namespace Go.Proofs.YtmhjkkkhdlnngaaGreatDoor
open Go.ChangeShapes Go.WideShapes Go.ChangeAt Go.RowKit Go.Lib Go.Proofs.Tryz
theorem wit_vars(os:Os):((QbX os).forCall (fun _ _=>0) ⟨#[],wargs,[]⟩).variablesRefB prog=true:=by kernel_rfl
theorem wit_run(os:Os):(((QbX os).forCall (fun _ _=>0) ⟨#[],wargs,[]⟩).heap.toList.drop prog.globals.size).take ((begin prog (fun _ _=>0) default).world.heap.size-prog.globals.size) =
   (begin prog (fun _ _=>0) default).world.heap.toList.drop prog.globals.size:=by kernel_rfl
theorem wit_ok(os:Os):Input.okWideB prog ((QbX os).forCall (fun _ _=>0) ⟨#[],wargs,[]⟩) 9 ⟨#[],wargs,[]⟩=true:=by kernel_rfl
end Go.Proofs.YtmhjkkkhdlnngaaGreatDoor
