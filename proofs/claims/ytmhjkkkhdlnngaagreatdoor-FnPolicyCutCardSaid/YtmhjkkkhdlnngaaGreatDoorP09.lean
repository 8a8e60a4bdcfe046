/- FnPolicyCut, part 9. -/
import Derived.Test.YtmhjkkkhdlnngaaGreatDoorP03
set_option linter.all false
set_option maxRecDepth 100000
set_option maxHeartbeats 0
namespace Go.Proofs.YtmhjkkkhdlnngaaGreatDoor
theorem ra4:((List.range' 240 60).all rowA)=true:=by kernel_rfl
theorem rb4:((List.range' 240 60).all rowB)=true:=by kernel_rfl
theorem ra5:((List.range' 300 60).all rowA)=true:=by kernel_rfl
theorem rb5:((List.range' 300 60).all rowB)=true:=by kernel_rfl
theorem ra6:((List.range' 360 60).all rowA)=true:=by kernel_rfl
theorem rb6:((List.range' 360 60).all rowB)=true:=by kernel_rfl
theorem ra7:((List.range' 420 60).all rowA)=true:=by kernel_rfl
theorem rb7:((List.range' 420 60).all rowB)=true:=by kernel_rfl
end Go.Proofs.YtmhjkkkhdlnngaaGreatDoor
