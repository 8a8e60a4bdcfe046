/- FnComma: a last comma changes nothing; for every world. Part 46. -/
import Derived.Test.YtmhjkkkhdlnngaaGreatDoorZ45
set_option linter.all false
set_option maxRecDepth 100000
set_option maxHeartbeats 40000000
namespace Go.Proofs.YtmhjkkkhdlnngaaGreatDoor
open Go.ChangeShapes Go.WideShapes Go.ChangeAt Go.RowKit Go.Lib
theorem laid_met(os:Os):laidMet Tryz.prog Rows.fnCommaRow.laid ((QbX os).forCall (fun _ _=>0) ⟨#[],wargs,[]⟩).memory :=
 laidMet_of_run' 8 (by kernel_rfl) (by kernel_rfl)
end Go.Proofs.YtmhjkkkhdlnngaaGreatDoor
