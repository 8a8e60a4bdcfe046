/- FnComma: a last comma changes nothing; for every world. Part 47. -/
import Derived.Test.YtmhjkkkhdlnngaaGreatDoorZ45
set_option linter.all false
set_option maxRecDepth 100000
set_option maxHeartbeats 40000000
namespace Go.Proofs.YtmhjkkkhdlnngaaGreatDoor
open Go.ChangeShapes Go.WideShapes Go.ChangeAt Go.RowKit Go.Lib
theorem reads(os:Os){H:Type}(enc:TypeId×Value→H):DataW.whole enc Tryz.prog ((QbX os).forCall (fun _ _=>0) ⟨#[],wargs,[]⟩).memory Tryz.f3.params.toList Rows.fnCommaSpec.vars false wargs.toList 8=some ([.nil,.lit (.int .u8 0)],[],[]):=by kernel_rfl
end Go.Proofs.YtmhjkkkhdlnngaaGreatDoor
