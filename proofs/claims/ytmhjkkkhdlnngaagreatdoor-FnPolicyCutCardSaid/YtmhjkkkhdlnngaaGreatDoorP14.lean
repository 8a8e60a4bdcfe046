/- FnPolicyCut, part 14. -/
import Derived.Test.YtmhjkkkhdlnngaaGreatDoorP10
import Derived.Great.FillDense
import Derived.Great.BuildSlice
import Derived.Deep.WholeRow
set_option linter.all false
set_option maxRecDepth 100000
set_option maxHeartbeats 0
namespace Go.Proofs.Pg
open Go.RowKit Go.Proofs.Tryz
theorem st18(w:World)(z ds:List Value)(hz:z.length=18)(hd:ds.length=18)(h1:∀v∈ds,v.oneCell'=true):(storeCells ⟨w.heap.size,0,none⟩ ds 0).run prog (w.alloc (.cells z.toArray 62))=.ok () (w.alloc (.cells ds.toArray 62)):=by
 have:=run_storeCells_new (P:=prog) w 62 z.toArray ds.toArray (by rw[List.size_toArray,hd];kernel_rfl) (by simp[hz,hd]) (by simp;exact h1);simpa using this
theorem ld18(w:World)(b:Nat)(ds:List Value)(T:TypeId)(fr:Nat×Nat)(hd:ds.length=18)(hb:w.heap[b]? =some (.cells ds.toArray T fr)):(loadCellsFrom ⟨b,0,none⟩ 0 18 #[]).run prog w=.ok ds.toArray w:=by
 have:=run_loadCells_list (P:=prog) w ⟨b,0,none⟩ ds (fun j v hv=>by
  have hadd:(⟨b,0,none⟩:Addr).add j=⟨b,j,none⟩:=by unfold Addr.add;split<;>simp_all
  rw[hadd];exact Qaa hb (by simpa using hv))
 rw[hd]at this;simpa [loadCells]using this
theorem bs18(w:World)(ds:List Value)(hd:ds.length=18):(Instr.buildSlice 40 1 #[(0,.agg ds.toArray)]).run prog w=.ok (.slice (some ⟨w.heap.size,0,none⟩) 1 1) (w.alloc (.cells ds.toArray 62)):=by
 have hz:(prog.info? 62).map (fun i=>(i.size,i.zero.map (·.cells.size)))=some (18,some 18):=by kernel_rfl
 cases hie:prog.info? 62 with
 | none=>rw[hie]at hz;cases hz
 | some ie =>
  rw[hie]at hz;simp only[Option.map_some,Option.some.injEq,Prod.mk.injEq]at hz;obtain⟨h18,hzz⟩:=hz;cases hzq:ie.zero with
  | none=>rw[hzq]at hzz;cases hzz
  | some z =>
   rw[hzq]at hzz;refine run_buildSlice w 40 62 1 _ ds.toArray ie z (by kernel_rfl) hie hzq (by rw[h18];decide) (by rw[h18];decide) ?_;rw[h18];have:=Great.fill_whole (s:=18) (by decide) [Value.agg ds.toArray] ((Array.range (1*18)).map (z.cells[·%z.cells.size]!)) (by simp[Value.cells,hd]) (by simp);simpa [Value.cells]using this
theorem ldv18(w:World)(b:Nat)(ds:List Value)(T:TypeId)(fr:Nat×Nat)(hd:ds.length=18)(hb:w.heap[b]? =some (.cells ds.toArray T fr)):(Instr.loadAt 62 (.pointer (some ⟨b,0,none⟩))).run prog w=.ok (.agg ds.toArray) w:=by
 show(loadVar 62 ⟨b,0,none⟩).run prog w=_;have e1:(isAgg 62).run prog w=.ok true w:=by kernel_rfl
 have e2:(sizeOf 62).run prog w=.ok 18 w:=by kernel_rfl
 simp only[loadVar,Sem.run_bind,e1,e2,Result.andThen_ok,Sem.run_pure,if_true,loadCells,ld18 w b ds T fr hd hb]
section
variable {P:Program}{ops:Array Oper}{rest:List Oper}{o:Oper}{a:Act}{w:World}{Q:Exit→Act→World→Prop}
theorem wpl_move(hg:o.guard=none)(x:Operand)(ho:o.op=.move x)(h:wpList P ops Q rest (a.put o.dst (a.eval x)) w):wpList P ops Q (o::rest) a w:=by
 refine wpList_plain hg fun _ hK=>?_
 unfold Oper.wp execOp;simp only[ho,Sem.run_bind,Sem.run_pure,Result.andThen_ok];exact hK _ _ h
theorem wpl_load(hg:o.guard=none)(t:TypeId)(x:Operand)(ho:o.op=.load t x)(p v:Value)(hx:a.eval x=p)(hr:(Instr.loadAt t p).run P w=.ok v w)(h:wpList P ops Q rest (a.put o.dst v) w):wpList P ops Q (o::rest) a w:=by
 refine wpList_plain hg fun _ hK=>?_
 unfold Oper.wp execOp;simp only[ho,hx,Sem.run_bind,hr,Result.andThen_ok];exact hK _ _ h
theorem wpl_bs(hg:o.guard=none)(t:TypeId)(n:Nat)(parts:Array (Nat×Operand))(ho:o.op=.buildSlice t n parts)(vs:Array (Nat×Value))(hp:(parts.map fun(i,x)=>(i,a.eval x))=vs)(v:Value)(w':World)(hr:(Instr.buildSlice t n vs).run P w=.ok v w')(h:wpList P ops Q rest (a.put o.dst v) w'):wpList P ops Q (o::rest) a w:=by
 refine wpList_plain hg fun _ hK=>?_
 unfold Oper.wp execOp;simp only[ho,hp,Sem.run_bind,hr,Result.andThen_ok];exact hK _ _ h
end
end Go.Proofs.Pg
