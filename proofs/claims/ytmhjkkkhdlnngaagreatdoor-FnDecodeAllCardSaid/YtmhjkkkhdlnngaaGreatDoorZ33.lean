/- FnDecodeAll, part 33. -/
import Derived.Test.YtmhjkkkhdlnngaaGreatDoorZ13
import Derived.Test.YtmhjkkkhdlnngaaGreatDoorZ32
set_option linter.all false
set_option maxRecDepth 100000
set_option maxHeartbeats 0
namespace Go.Proofs.Pg
open Go.RowKit
def PosIs(w:World)(U:Nat→Prop)(p:Option Addr)(l:List PPol):Prop:=∃cs,RwU w U 62 18 p l.length cs∧∀i a,l[i]? =some a→PpIs w U ((cs.drop (i*18)).take 18) a
theorem PpIs.after{w w':World}{U:Nat→Prop}{cs:List Value}{P:PPol}(h:PpIs w U cs P)(hb:Below w.heap.size w w'):PpIs w' U cs P:=h.extT (S:=fun _=>False) (.below hb) (fun _ _ _ _ _ _ h=>h)
theorem PpIs.len{w:World}{U:Nat→Prop}{cs:List Value}{P:PPol}(h:PpIs w U cs P):cs.length=18:=by
 obtain⟨pn,cn,s1,s2,s3,pc,cc,cells,rfl,-,⟨p1,d1,rfl,-⟩,⟨p2,d2,rfl,-⟩,⟨p3,d3,rfl,-⟩,-⟩:=h;rfl
theorem Qi2{w:World}{U:Nat→Prop}{p:Option Addr}{l:List PPol}(h:PosIs w U p l){i:Nat}{a:PPol}(hi:l[i]? =some a) :
  ∃b o,p=some ⟨b,o,none⟩∧b<w.heap.size∧∃ds,PpIs w U ds a∧∀j v,ds[j]? =some v→w.cell? ⟨b,o+i*18+j,none⟩=some v:=by
 have hl:i<l.length:=(List.getElem?_eq_some_iff.1 hi).1;obtain⟨cs,⟨h1,h2⟩,hs⟩:=h;obtain⟨b,o,c,fr,rfl,_,hb,hc⟩:=h2.resolve_left (by omega);refine⟨b,o,rfl,Qad hb,_,hs i a hi,fun j v hv=>?_⟩;have hj:j<18:=by
  have:=(List.getElem?_eq_some_iff.1 hv).1;have h11:=(hs i a hi).len;omega
 rw[List.getElem?_take_of_lt hj,List.getElem?_drop]at hv;refine Qaa hb ?_;rw[show o+i*18+j=o+(i*18+j)by omega,hc _ (by have:(i+1)*18≤l.length*18:=Nat.mul_le_mul_right _ hl;omega)];exact hv
end Go.Proofs.Pg
namespace Go.Proofs.Pg
open Go.RowKit Go.Proofs.Tryz
attribute [local go_sem] Oper.semAt_some
theorem QiD{L:Lex}{N:Nat}(hE:Sh (expr L N))(hO:OkF (expr L N)):∀(f:Nat)(acc:List Pol)(ts:Toks)(ps:List Pol),Good ts→(∀P∈acc,OkPol P)→Qiu L N f acc ts=some ps→(∀P∈ps,OkPol P)∧ps.length≤acc.length+ts.length
 | 0,_,_,_,_,_,h=>by cases h
 | f+1,acc,ts,ps,hg,ha,h=>by
  rw[Qiu]at h;split at h
  ·cases h;exact⟨ha,by omega⟩
  ·split at h
   ·cases h
   ·rename_i P us hp
    obtain⟨s1,s2⟩:=Qiy hE hg.wf hp;have:=QiD hE hO f (acc++[P]) us ps (hg.sf s1) (fun Q hQ=>by
     rcases List.mem_append.1 hQ with hQ | hQ
     ·exact ha Q hQ
     ·rw[List.mem_singleton.1 hQ];exact QhY hE hO hg hp) h
    refine⟨this.1,?_⟩;have h2:=this.2;rw[List.length_append,List.length_singleton]at h2;omega
theorem Qi4{t:List UInt8}(ht:t.length≤800000){ps:List Pol}(h:Qit lx t=some ps):(∀P∈ps,OkPol P)∧ps.length≤1000000:=by
 unfold Qit at h;cases htk:toks t with
 | none=>rw[htk]at h;cases h
 | some ts =>
  rw[htk]at h;have hg:=QhX ht htk;have:=QiD (QdZ ts.length) (QhM (fun s p hs hp=>Qi9 hs hp) _) _ [] ts ps hg (fun P hP=>by cases hP) h;refine⟨this.1,?_⟩;have h2:=this.2;have h3:=hg.len;simp at h2;omega
theorem sl40:SlT prog 40 62 (.agg pZl.toArray) 18 296:=⟨by kernel_rfl,⟨Tryz.t62,by kernel_rfl,by kernel_rfl,by kernel_rfl,by kernel_rfl⟩,rfl,by decide⟩
theorem PpIs.one{w:World}{U:Nat→Prop}{cs:List Value}{P:PPol}(h:PpIs w U cs P):∀v∈cs,v.oneCell'=true:=by
 obtain⟨pn,cn,s1,s2,s3,pc,cc,cells,rfl,-,⟨p1,d1,rfl,-⟩,⟨p2,d2,rfl,-⟩,⟨p3,d3,rfl,-⟩,-⟩:=h;exact List.all_eq_true.1 rfl
def PsRows(w:World)(B:Nat)(cs:List Value)(l:List PPol):Prop:=cs.length=l.length*18∧∀(i:Nat) a,l[i]? =some a→PpIs w (B≤·) ((cs.drop (i*18)).take 18) a
def PaRel(w1:World)(B:Nat)(ps:List Pol)(v2 v17:Value)(wr:World):Prop :=
 ∃i cs,v17=.int .i64 ((i:Nat):Int)∧i≤ps.length∧wr.ownsRow B 62 18 v2 i cs∧PsRows wr B cs ((ps.take i).map Qb1)∧Below w1.heap.size w1 wr
theorem PsRows.snoc{w:World}{B:Nat}{cs ds:List Value}{l:List PPol}{a:PPol}(h:PsRows w B cs l)(hd:PpIs w (B≤·) ds a):PsRows w B (cs++ds) (l++[a]):=by
 obtain⟨hc,hi⟩:=h;have hl:=hd.len;refine⟨by simp[hc,hl];omega,fun i b hb=>?_⟩;by_cases hlt:i<l.length
 ·rw[List.getElem?_append_left hlt]at hb
  have h18:(i+1)*18≤l.length*18:=Nat.mul_le_mul_right _ hlt;rw[List.drop_append_of_le_length (by omega),List.take_append_of_le_length (by rw[List.length_drop];omega)];exact hi i b hb
 ·have h0:i=l.length:=by
   have:=(List.getElem?_eq_some_iff.1 hb).1;simp at this;omega
  subst h0;simp at hb;subst hb;rw[List.drop_append,List.drop_eq_nil_of_le (by omega),hc,Nat.sub_self,List.nil_append,List.drop_zero,List.take_of_length_le (by omega)];exact hd
theorem PsRows.grow{w w':World}{B:Nat}{cs:List Value}{l:List PPol}{v:Value}{n:Nat}{xs:List Value}(h:PsRows w B cs l)(ho:w.ownsRow B 62 18 v n xs)(hg:w.grownBy w' v.ownBlock):PsRows w' B cs l:=⟨h.1,fun i a hi=>(h.2 i a hi).extT (QaF ho hg) (fun d c T fr hd hT hk=>by
 obtain⟨c',hc'⟩:=Qi1 ho hk;rw[hc']at hd;cases hd;exact hT rfl)⟩
theorem PpIs.grow{w w':World}{U:Nat→Prop}{B:Nat}{cs:List Value}{a:PPol}{v:Value}{n:Nat}{xs:List Value}(h:PpIs w U cs a)(ho:w.ownsRow B 62 18 v n xs)(hg:w.grownBy w' v.ownBlock):PpIs w' U cs a:=h.extT (QaF ho hg) (fun d c T fr hd hT hk=>by
 obtain⟨c',hc'⟩:=Qi1 ho hk;rw[hc']at hd;cases hd;exact hT rfl)
theorem PsRows.after{w w':World}{B:Nat}{cs:List Value}{l:List PPol}(h:PsRows w B cs l)(hb:Below w.heap.size w w'):PsRows w' B cs l:=⟨h.1,fun i a hi=>(h.2 i a hi).after hb⟩
theorem PaRel.next{w2 wr w3 w5 w9:World}{ps:List Pol}{i:Nat}{P:Pol}{v v9:Value}{cs ds:List Value}(hi:ps[i]? =some P)(hO:wr.ownsRow w2.heap.size 62 18 v i cs)(hP:PsRows wr w2.heap.size cs ((ps.take i).map Qb1))(hB:Below w2.heap.size w2 wr)
  (hD:PpIs w3 (wr.heap.size≤·) ds (Qb1 P))(h3:Below wr.heap.size wr w3)(h5:Below w3.heap.size w3 w5)(hO9:w9.ownsRow w2.heap.size 62 18 v9 (i+1) (cs++ds))(hg:w5.grownBy w9 v.ownBlock):PaRel w2 w2.heap.size ps v9 (.int .i64 ((i:Int)+1)) w9:=by
 have hB5:Below wr.heap.size wr w5:=h3.trans (h5.mono h3.size);have hO5:=Qb3 (S:=fun _=>False) hO (.below hB5) (fun _ h=>h.elim);have hil:=(List.getElem?_eq_some_iff.1 hi).1;have hz:=hB.size;have hP9:=((hP.after hB5).grow hO5 hg).snoc ((((hD.after h5).mono (U':=(w2.heap.size≤·)) (fun d hd=>by omega)).grow hO5 hg));refine⟨i+1,cs++ds,rfl,hil,hO9,?_,?_⟩
 ·rw[List.take_add_one,hi]
  simpa using hP9
 ·exact((Ext.below (S:=fun _=>False) (hB.trans (hB5.mono hz))).trans' (QaF hO5 hg) (fun d hd=>.inr (Qa5 hO5 hd).1)).toBelow (fun _ h=>h.elim) (Xb _)
def PasP(w:World)(R:Option (List Pol))(e:Ending)(w':World):Prop:=Below w.heap.size w w'∧match R with
 | none=>e=.returned (.tuple #[.slice none 0 0,.bool false])
 | some ps=>∃p c,e=.returned (.tuple #[.slice p ps.length c,.bool true])∧PosIs w' (w.heap.size≤·) p (ps.map Qb1)
end Go.Proofs.Pg
