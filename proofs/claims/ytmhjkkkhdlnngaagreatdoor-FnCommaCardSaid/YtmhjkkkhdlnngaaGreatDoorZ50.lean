/- FnComma: a last comma changes nothing; for every world. Part 50. -/
import Derived.Test.YtmhjkkkhdlnngaaGreatDoorZ00
set_option linter.all false
set_option maxRecDepth 100000
set_option maxHeartbeats 40000000
namespace Go.Proofs.YtmhjkkkhdlnngaaGreatDoor
open Go.ChangeShapes Go.WideShapes Go.ChangeAt Go.RowKit
theorem named3:Tryz.prog.funcNamed "pub-claviger/laws.FnComma"= some 3:=by kernel_rfl
theorem noneGoes:Tryz.prog.funcs.any Func.goes=false:=by kernel_rfl
theorem goesOf{P:Program}{func:String}{f:FuncId}(hn:P.funcNamed func=some f)(h:P.funcs.any Func.goes=false):P.goesFrom func=false:=by
 have hno:∀g:Nat,(P.funcs[g]?).any Func.goes=false:=by
  intro g;cases hg:P.funcs[g]? with
  | none=>rfl
  | some fn =>
   have hm:fn∈P.funcs:=Array.mem_of_getElem? hg;have:=Array.any_eq_false'.1 h fn hm;simpa using this
 unfold Program.goesFrom;rw[hn];show P.goes f=false;unfold Program.goes;rw[h,Bool.and_false,Bool.or_false,List.any_eq_false];intro g _;rw[hno g];decide
theorem goesSo:false=Rows.fnCommaRow.goesBy Tryz.prog:=by
 have h:=goesOf named3 noneGoes;show false=(Tryz.prog.goesFrom "pub-claviger/laws.FnComma"|| false);rw[h];rfl
end Go.Proofs.YtmhjkkkhdlnngaaGreatDoor
