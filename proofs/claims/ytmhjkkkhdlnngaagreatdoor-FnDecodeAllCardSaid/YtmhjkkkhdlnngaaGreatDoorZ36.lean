/- FnDecodeAll, part 36. -/
import Derived.Test.YtmhjkkkhdlnngaaGreatDoorZ30
set_option linter.all false
set_option maxRecDepth 100000
set_option maxHeartbeats 0
namespace Go.Proofs.Pg
open Go.RowKit Go.Proofs.Tryz
attribute [local go_sem] Oper.semAt_some
def SeP(w:World)(e:Ending)(w':World):Prop:=e=.returned (.bool true)∧Below w.heap.size w w'
def SeRl(w0:World)(n A B:Nat)(pl ql:Option Addr)(cl dl:Nat)(v5:Value)(wr:World):Prop:=∃i,v5=.int .i64 ((i:Nat):Int)∧i≤n∧Below w0.heap.size w0 wr∧wr.cell? ⟨A,10,none⟩=some (.slice pl n cl)∧wr.cell? ⟨B,10,none⟩=some (.slice ql n dl)
theorem px_row{w:World}{U:Nat→Prop}{p:Option Addr}{l:List PEx}{cs:List Value}(h:RwU w U 33 11 p l.length cs)(hs:∀i a,l[i]? =some a→PxIs w U ((cs.drop (i*11)).take 11) a){i:Nat}{a:PEx}(hi:l[i]? =some a) :
  ∃b o,p=some ⟨b,o,none⟩∧b<w.heap.size∧∃ds,PxIs w U ds a∧∀j v,ds[j]? =some v→w.cell? ⟨b,o+i*11+j,none⟩=some v:=by
 have hl:i<l.length:=(List.getElem?_eq_some_iff.1 hi).1;obtain⟨h1,h2⟩:=h;obtain⟨b,o,c,fr,rfl,_,hb,hc⟩:=h2.resolve_left (by omega);refine⟨b,o,rfl,Qad hb,_,hs i a hi,fun j v hv=>?_⟩;have hj:j<11:=by
  have:=(List.getElem?_eq_some_iff.1 hv).1;have h11:=(hs i a hi).len;omega
 rw[List.getElem?_take_of_lt hj,List.getElem?_drop]at hv;refine Qaa hb ?_;rw[show o+i*11+j=o+(i*11+j)by omega,hc _ (by have:(i+1)*11≤l.length*11:=Nat.mul_le_mul_right _ hl;omega)];exact hv
def SeOk(x:PEx):Prop:=∀(w:World)(U V:Nat→Prop)(cs ds:List Value),PxIs w U cs x→PxIs w V ds x→Calls prog 12 #[.agg cs.toArray,.agg ds.toArray] w (SeP w)
end Go.Proofs.Pg
