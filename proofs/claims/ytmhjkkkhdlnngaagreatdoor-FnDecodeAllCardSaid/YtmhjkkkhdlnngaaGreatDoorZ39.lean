/- FnDecodeAll, part 39. -/
import Derived.Test.YtmhjkkkhdlnngaaGreatDoorCards
import Derived.ProofKit
import Derived.OpenShut
import Derived.Carry
import Derived.Deep.DeepHandedRow
import Derived.Deep.DeepWitnessRowRef
set_option linter.all false
set_option maxRecDepth 100000
set_option maxHeartbeats 0
namespace Go.Proofs.YtmhjkkkhdlnngaaGreatDoor

end Go.Proofs.YtmhjkkkhdlnngaaGreatDoor
