/- FnComma: a last comma changes nothing; for every world. Part 48. -/
import Derived.Test.YtmhjkkkhdlnngaaGreatDoorZ45
set_option linter.all false
set_option maxRecDepth 100000
set_option maxHeartbeats 40000000
namespace Go.Proofs.YtmhjkkkhdlnngaaGreatDoor
open Go.ChangeShapes Go.WideShapes Go.ChangeAt Go.RowKit Go.Lib
theorem wit_vars(os:Os):((QbX os).forCall (fun _ _=>0) ⟨#[],wargs,[]⟩).variablesRefB Tryz.prog=true:=by kernel_rfl
theorem wit_run(os:Os):(((QbX os).forCall (fun _ _=>0) ⟨#[],wargs,[]⟩).heap.toList.drop Tryz.prog.globals.size).take ((begin Tryz.prog (fun _ _=>0) default).world.heap.size-Tryz.prog.globals.size) =
   (begin Tryz.prog (fun _ _=>0) default).world.heap.toList.drop Tryz.prog.globals.size:=by kernel_rfl
theorem wit_ok(os:Os):Input.okWideB Tryz.prog ((QbX os).forCall (fun _ _=>0) ⟨#[],wargs,[]⟩) 3 ⟨#[],wargs,[]⟩=true:=by kernel_rfl
end Go.Proofs.YtmhjkkkhdlnngaaGreatDoor
