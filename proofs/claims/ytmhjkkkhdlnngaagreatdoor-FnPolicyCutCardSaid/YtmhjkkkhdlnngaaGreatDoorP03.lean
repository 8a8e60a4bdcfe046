/- FnPolicyCut, part 3. -/
import Derived.Test.YtmhjkkkhdlnngaaGreatDoorProg
import Derived.KernelRfl
import Derived.LaidLaws
set_option linter.all false
set_option maxRecDepth 100000
set_option maxHeartbeats 0
namespace Go.Proofs.YtmhjkkkhdlnngaaGreatDoor
open Go.Proofs.Tryz
noncomputable def rowA (u:Nat):Bool:=prog.typeName? 3 u != some "*errors.errorString"|| u==346
noncomputable def rowB (e:Nat):Bool:=prog.typeName? 2 e != some "errors.errorString"|| (match(prog.info? e).map (·.desc)with | some (TypeDesc.named _ _)=>true | _=>false)
theorem ra0:((List.range' 0 60).all rowA)=true:=by kernel_rfl
theorem rb0:((List.range' 0 60).all rowB)=true:=by kernel_rfl
theorem ra1:((List.range' 60 60).all rowA)=true:=by kernel_rfl
theorem rb1:((List.range' 60 60).all rowB)=true:=by kernel_rfl
theorem ra2:((List.range' 120 60).all rowA)=true:=by kernel_rfl
theorem rb2:((List.range' 120 60).all rowB)=true:=by kernel_rfl
theorem ra3:((List.range' 180 60).all rowA)=true:=by kernel_rfl
theorem rb3:((List.range' 180 60).all rowB)=true:=by kernel_rfl
end Go.Proofs.YtmhjkkkhdlnngaaGreatDoor
