/- FnDecodeAll, part 51. -/
import Derived.Test.YtmhjkkkhdlnngaaGreatDoorZ42
set_option linter.all false
set_option maxRecDepth 100000
set_option maxHeartbeats 0
namespace Go.Proofs.YtmhjkkkhdlnngaaGreatDoor
open Go.ChangeShapes Go.WideShapes Go.ChangeAt Go.RowKit Go.Lib Go.Proofs.Tryz
theorem reads(os:Os){H:Type}(enc:TypeId×Value→H):DataW.whole enc prog ((QbX os).forCall (fun _ _=>0) ⟨#[],wargs,[]⟩).memory Tryz.f4.params.toList Rows.fnDecodeAllSpec.vars false wargs.toList 8=some ([.lit (.string []),.nil],[],[]):=by kernel_rfl
end Go.Proofs.YtmhjkkkhdlnngaaGreatDoor
