/- FnPolicyCut, part 47. -/
import Derived.Test.YtmhjkkkhdlnngaaGreatDoorP37
set_option linter.all false
set_option maxRecDepth 100000
set_option maxHeartbeats 0
namespace Go.Proofs.YtmhjkkkhdlnngaaGreatDoor
open Go.ChangeShapes Go.WideShapes Go.ChangeAt Go.RowKit Go.Lib Go.Proofs.Tryz
theorem reads(os:Os){H:Type}(enc:TypeId×Value→H):DataW.whole enc prog ((QbX os).forCall (fun _ _=>0) ⟨#[],wargs,[]⟩).memory Tryz.f9.params.toList Rows.fnPolicyCutSpec.vars false wargs.toList 8=some ([.lit (.string []),.lit (.int .u16 0)],[],[]):=by kernel_rfl
end Go.Proofs.YtmhjkkkhdlnngaaGreatDoor
