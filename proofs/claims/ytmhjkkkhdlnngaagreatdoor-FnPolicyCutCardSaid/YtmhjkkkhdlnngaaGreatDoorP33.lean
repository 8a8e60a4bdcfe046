/- FnPolicyCut, part 33. -/
import Derived.Test.YtmhjkkkhdlnngaaGreatDoorCards
import Derived.ProofKit
import Derived.OpenShut
import Derived.Carry
import Derived.Deep.DeepHandedRow
import Derived.Deep.DeepWitnessRowRef
set_option linter.all false
set_option maxRecDepth 100000
set_option maxHeartbeats 0
namespace Go.Proofs.YtmhjkkkhdlnngaaGreatDoor

end Go.Proofs.YtmhjkkkhdlnngaaGreatDoor
namespace Go.Proofs.YtmhjkkkhdlnngaaGreatDoor
open Go.ChangeShapes Go.WideShapes Go.ChangeAt Go.RowKit Go.Proofs.Tryz
theorem named4:prog.funcNamed "pub-claviger/laws.FnPolicyCut"= some 9:=by kernel_rfl
theorem noneGoes:prog.funcs.any Func.goes=false:=by kernel_rfl
theorem goesOf{P:Program}{func:String}{f:FuncId}(hn:P.funcNamed func=some f)(h:P.funcs.any Func.goes=false):P.goesFrom func=false:=by
 have hno:∀g:Nat,(P.funcs[g]?).any Func.goes=false:=by
  intro g;cases hg:P.funcs[g]? with
  | none=>rfl
  | some fn =>
   have hm:fn∈P.funcs:=Array.mem_of_getElem? hg;have:=Array.any_eq_false'.1 h fn hm;simpa using this
 unfold Program.goesFrom;rw[hn];show P.goes f=false;unfold Program.goes;rw[h,Bool.and_false,Bool.or_false,List.any_eq_false];intro g _;rw[hno g];decide
theorem goesSo:false=Rows.fnPolicyCutRow.goesBy prog:=by
 have h:=goesOf named4 noneGoes;show false=(prog.goesFrom "pub-claviger/laws.FnPolicyCut"|| false);rw[h];rfl
end Go.Proofs.YtmhjkkkhdlnngaaGreatDoor
