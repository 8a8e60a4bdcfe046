/- FnDecodeAll, part 49. -/
import Derived.Test.YtmhjkkkhdlnngaaGreatDoorZ39
set_option linter.all false
set_option maxRecDepth 100000
set_option maxHeartbeats 0
namespace Go.Proofs.YtmhjkkkhdlnngaaGreatDoor
open Go.ChangeShapes Go.WideShapes Go.ChangeAt Go.RowKit Go.Proofs.Tryz
theorem k_7:((Rows.fnDecodeAllRow.knobs==[]))=true:=by kernel_rfl
theorem k_19:(Tryz.f4.resultTypes.all (fun t=>prog.readableRec t&&decide (t<prog.types.size)))=true:=by kernel_rfl
theorem k_27:((prog.make==some Rows.fnDecodeAllRow.make))=true:=by kernel_rfl
theorem k_13:((Rows.fnDecodeAllRow.maps==(Tryz.f4.params.toList++(OpenSpec.ofChange Rows.fnDecodeAllSpec).bare.plain.varTypes prog).any (prog.mapsRec ·)))=true:=by kernel_rfl
theorem k_21:((Rows.fnDecodeAllRow.loopsOut==Tryz.f4.resultTypes.toList.any (prog.loopsFrom ·)))=true:=by kernel_rfl
theorem k_29:((Rows.fnDecodeAllRow.pinned==Rows.fnDecodeAllRow.pinnedBy))=true:=by kernel_rfl
theorem named4:prog.funcNamed "pub-claviger/laws.FnDecodeAll"= some 4:=by kernel_rfl
theorem noneGoes:prog.funcs.any Func.goes=false:=by kernel_rfl
theorem goesOf{P:Program}{func:String}{f:FuncId}(hn:P.funcNamed func=some f)(h:P.funcs.any Func.goes=false):P.goesFrom func=false:=by
 have hno:∀g:Nat,(P.funcs[g]?).any Func.goes=false:=by
  intro g;cases hg:P.funcs[g]? with
  | none=>rfl
  | some fn =>
   have hm:fn∈P.funcs:=Array.mem_of_getElem? hg;have:=Array.any_eq_false'.1 h fn hm;simpa using this
 unfold Program.goesFrom;rw[hn];show P.goes f=false;unfold Program.goes;rw[h,Bool.and_false,Bool.or_false,List.any_eq_false];intro g _;rw[hno g];decide
theorem goesSo:false=Rows.fnDecodeAllRow.goesBy prog:=by
 have h:=goesOf named4 noneGoes;show false=(prog.goesFrom "pub-claviger/laws.FnDecodeAll"|| false);rw[h];rfl
end Go.Proofs.YtmhjkkkhdlnngaaGreatDoor
