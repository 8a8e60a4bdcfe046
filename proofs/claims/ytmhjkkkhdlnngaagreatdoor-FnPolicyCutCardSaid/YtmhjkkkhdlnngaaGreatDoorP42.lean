/- FnPolicyCut, part 42. -/
import Derived.Test.YtmhjkkkhdlnngaaGreatDoorP37
set_option linter.all false
set_option maxRecDepth 100000
set_option maxHeartbeats 0
namespace Go.Proofs.YtmhjkkkhdlnngaaGreatDoor
open Go.ChangeShapes Go.WideShapes Go.ChangeAt Go.RowKit Go.Lib Go.Proofs.Tryz
theorem laid_met(os:Os):laidMet prog Rows.fnPolicyCutRow.laid ((QbX os).forCall (fun _ _=>0) ⟨#[],wargs,[]⟩).memory :=
 laidMet_of_run' 8 (by kernel_rfl) (by kernel_rfl)
end Go.Proofs.YtmhjkkkhdlnngaaGreatDoor
