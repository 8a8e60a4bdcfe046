/- FnDecodeAll, part 29. -/
import Derived.Test.YtmhjkkkhdlnngaaGreatDoorZ26
set_option linter.all false
set_option maxRecDepth 100000
set_option maxHeartbeats 0
namespace Go.Proofs.Pg
open Go.RowKit
section
variable {P:Program}{ops:Array Oper}{Q:Exit→Act→World→Prop}
structure OKg(ops:Array Oper)(n:Nat):Prop where
 nodup:(Qbi ops).Nodup
 small:∀d∈Qbi ops,d<n
 edges:∀i o,ops[i]? =some o→∀e∈o.after.toList,Region.binds .any e=true→e.on<i
theorem Facts.stepG{a0:Act}{w0:World}{E:World→World→Prop}{Φ:Nat→Value→World→Prop}(hok:OKg ops a0.tmps.size)(hT:∀a b c,E a b→E b c→E a c)
  (hΦ:∀j v w w',E w w'→Φ j v w→Φ j v w'){listed:Array Bool}{a:Act}{w w':World}(h:Facts ops a0 w0 E Φ listed a w){i:Nat}{o:Oper}(hi:ops[i]? =some o)(hni:listed.getD i true=false)
  (hE:E w w')(v:Value)(hv:Φ i (match o.dst with | some _=>v | none=>undef) w'):Facts ops a0 w0 E Φ (listed.setIfInBounds i true) (a.put o.dst v) w':=by
 have hilt:i<listed.size:=by
  rcases Nat.lt_or_ge i listed.size with h | h
  ·exact h
  ·simp[Array.getD,Nat.not_lt.2 h]at hni
 have hmem:∀d,o.dst=some d→d∈Qbi ops:=fun d hd=>List.mem_filterMap.2 ⟨o,List.mem_of_getElem? (by simpa using hi),hd⟩
 have hlt:∀d,o.dst=some d→d<a.tmps.size:=fun d hd=>by rw[h.size];exact hok.small d (hmem d hd)
 refine⟨hT _ _ _ h.ext hE,?_,?_,?_,?_⟩
 ·cases hd:o.dst<;>simp[Act.put,h.size]
 ·cases hd:o.dst<;>simp[Act.put,h.defers]
 ·intro t ht
  cases hd:o.dst with
  | none=>simp only[Act.put];exact h.other t ht
  | some d =>
   have hne:t≠d:=by rintro rfl;exact ht (hmem _ hd)
   rw[QbJ _ _ _ _ (hlt d hd),if_neg hne];exact h.other t ht
 ·intro j oj hj hl
  by_cases hij:j=i
  ·subst hij
   obtain rfl:o=oj:=by rw[hi]at hj;exact Xd hj
   cases hd:o.dst with
   | none=>rw[hd]at hv;simpa [Qcs,hd,Act.put]using hv
   | some d =>
    rw[hd]at hv;have:Qcs (a.put (some d) v) o=v:=by simp only[Qcs,hd];rw[QbJ _ _ _ _ (hlt d hd),if_pos rfl]
    rw[this];exact hv
  ·have hl':listed.getD j false=true:=by rw[getD_set_ne false (Ne.symm hij)]at hl;exact hl
   have hval:Qcs (a.put o.dst v) oj=Qcs a oj:=by
    cases hd:o.dst with
    | none=>rfl
    | some d =>
     cases hdj:oj.dst with
     | none=>simp[Qcs,hdj]
     | some dj =>
      have hne:dj≠d:=by
       rintro rfl;exact Qbq ops.toList i j o oj dj hok.nodup (by simpa using hi) (by simpa using hj) (Ne.symm hij) hd hdj
      simp only[Qcs,hdj];rw[QbJ _ _ _ _ (hlt d hd),if_neg hne]
   rw[hval];exact hΦ _ _ _ _ hE (h.facts j oj hj hl')
def OpG(P:Program)(ops:Array Oper)(Q:Exit→Act→World→Prop)(a0:Act)(w0:World)(E:World→World→Prop)(Φ:Nat→Value→World→Prop)(i:Nat)(o:Oper):Prop :=
 ∀(a:Act)(w:World),E w0 w→(∀t,t∉Qbi ops→a.tmps.getD t undef=a0.tmps.getD t undef) →
  (∀e∈o.after.toList,Region.binds .any e=true→∀oj,ops[e.on]? =some oj→Φ e.on (Qcs a oj) w) →
  if Region.wanted o (yielded ops a.tmps)=true then o.wp P a w (fun a' w'=>E w w'∧∃v,a'=a.put o.dst v∧Φ i (match o.dst with | some _=>v | none=>undef) w') Q else Φ i (match o.dst with | some _=>undef | none=>undef) w
theorem OKg.acyc{n:Nat}(hok:OKg ops n)(listed:Array Bool)(hs:listed.size=ops.size)(hr:Region.ready .any ops listed=[]):listed=Array.replicate ops.size true:=by
 have hall:∀i,i<ops.size→listed.getD i false=true:=by
  intro i
  induction i using Nat.strongRecOn with
  | _ i ih =>
   intro hi;refine Classical.byContradiction fun hno=>?_
   have hmem:i∈Region.ready .any ops listed:=by
    rw[mem_ready];refine⟨?_,ops[i],Array.getElem?_eq_getElem hi,?_⟩
    ·simp only[Array.getD,hs,hi,dif_pos]at hno ⊢
     simpa using hno
    ·intro e he hb
     have hlt:=hok.edges i ops[i] (Array.getElem?_eq_getElem hi) e (by simpa using he) hb;exact ih _ hlt (by omega)
   rw[hr]at hmem;cases hmem
 apply Array.ext
 ·simp[hs]
 ·intro i h1 h2
  have:=hall i (by simpa [hs]using h1);simp only[Array.getD,h1,dif_pos]at this;simpa using this
theorem wpAny_G{a0:Act}{w0:World}{E:World→World→Prop}{Φ:Nat→Value→World→Prop}(hok:OKg ops a0.tmps.size)(hR:∀a,E a a)(hT:∀a b c,E a b→E b c→E a c)
  (hΦ:∀j v w w',E w w'→Φ j v w→Φ j v w')(hop:∀i o,ops[i]? =some o→OpG P ops Q a0 w0 E Φ i o)
  (hdone:∀a w,Facts ops a0 w0 E Φ (Array.replicate ops.size true) a w→Q .normal a w)
  :
  ∀(fuel:Nat)(listed:Array Bool)(a:Act)(w:World),listed.size=ops.size→(listed.toList.filter (! ·)).length≤fuel→Facts ops a0 w0 E Φ listed a w→wpAny P .any ops Q fuel listed a w:=by
 intro fuel
 induction fuel with
 | zero =>
  intro listed a w hs hf h;have hall:listed=Array.replicate ops.size true:=by
   have h0:listed.toList.filter (! ·)=[]:=List.eq_nil_of_length_eq_zero (by omega);rw[List.filter_eq_nil_iff]at h0;apply Array.ext
   ·simp[hs]
   ·intro i h1 h2
    have:=h0 listed[i] (by simp);simpa using this
  subst hall;refine⟨?_,hdone _ _ h⟩;unfold Region.ready;rw[List.filter_eq_nil_iff];intro i hi;simp at hi;simp[Array.getD,hi]
 | succ fuel ih =>
  intro listed a w hs hf h;refine⟨fun hr=>?_,fun i hi=>?_⟩
  ·have:=hok.acyc listed hs hr
   subst this;exact hdone _ _ h
  ·rw[mem_ready]at hi
   obtain⟨hni,o,ho,hedges⟩:=hi;unfold wpOp;simp only[ho];have hd:=hop i o ho a w h.ext h.other (fun e he hb oj hoj=>h.facts _ _ hoj (hedges e (by simpa using he) hb));have hlen:((listed.setIfInBounds i true).toList.filter (! ·)).length≤fuel:=by
    have hilt:i<listed.size:=by
     rcases Nat.lt_or_ge i listed.size with h | h
     ·exact h
     ·simp[Array.getD,Nat.not_lt.2 h]at hni
    have hfalse:listed[i]=false:=by simpa [Array.getD,hilt]using hni
    have hcount:∀(l:List Bool)(k:Nat)(hk:k<l.length),l[k]=false→((l.set k true).filter (! ·)).length+1=(l.filter (! ·)).length:=by
     intro l
     induction l with
     | nil=>intro k hk;simp at hk
     | cons b l ihl =>
      intro k hk hb;cases k with
      | zero=>simp at hb;subst hb;simp
      | succ k =>
       simp only[List.set_cons_succ,List.filter_cons];have:=ihl k (by simpa using hk) (by simpa using hb);cases b<;>simp<;>omega
    have:=hcount listed.toList i (by simpa using hilt) (by simpa using hfalse);simp only[Array.toList_setIfInBounds];omega
   by_cases hw:Region.wanted o (yielded ops a.tmps)=true
   ·rw[if_pos hw]at hd ⊢
    refine .inl (Oper.wp_mono ?_ hd);rintro a' w'⟨hE,v,rfl,hv⟩;exact ih _ _ _ (by simp[hs]) hlen (h.stepG hok hT hΦ ho hni hE v hv)
   ·rw[if_neg hw]at hd ⊢
    exact ih _ _ _ (by simp[hs]) hlen (h.stepG hok hT hΦ ho hni (hR w) undef hd)
end
def QdG(ops:Array Oper)(n:Nat):Bool :=
 decide (Qbi ops).Nodup&&(Qbi ops).all (fun d=>decide (d<n))&&ops.toList.zipIdx.all (fun x=>x.1.after.toList.all fun e=>!Region.binds .any e||decide (e.on<x.2))
theorem okg_of{ops:Array Oper}{n:Nat}(h:QdG ops n=true):OKg ops n:=by
 simp only[QdG,Bool.and_eq_true,decide_eq_true_eq,List.all_eq_true]at h;obtain⟨⟨h1,h2⟩,h4⟩:=h;refine⟨h1,fun d hd=>by simpa using h2 d hd,?_⟩;intro i o hi e he hb;have hm:(o,i)∈ops.toList.zipIdx:=by
  rw[List.mem_zipIdx_iff_getElem?];simpa using hi
 have:=h4 (o,i) hm e he;rw[hb]at this;simpa using this
theorem Qfs{P:Program}{ops:Array Oper}{Q:Exit→Act→World→Prop}{id:Nat}{a0:Act}{w0:World}(hm:P.follows .mixedOrders=true)(hokb:QdG ops a0.tmps.size=true)(E:World→World→Prop)(Φ:Nat→Value→World→Prop)
  (hE0:E w0 w0.drew)(hR:∀a,E a a)(hT:∀a b c,E a b→E b c→E a c)(hΦ:∀j v w w',E w w'→Φ j v w→Φ j v w')
  (hop:∀i o,ops[i]? =some o→OpG P ops Q a0 w0 E Φ i o)
  (hdone:∀a w,Facts ops a0 w0 E Φ (Array.replicate ops.size true) a w→Q .normal a w):(Code.region id ops true).wp P Q a0 w0:=by
 refine wp_region_any hm (wpAny_G (okg_of hokb) hR hT hΦ hop hdone _ _ _ _ (by simp) (by simp) ?_);exact⟨hE0,rfl,rfl,fun _ _=>rfl,fun j o _ hl=>by simp[Array.getD]at hl⟩
theorem Qas{ops:Array Oper}{a:Act}{o og:Oper}{g:Nat}{b c:Bool}{d:Tmp}(hg:o.guard=some (g,b))(hog:ops[g]? =some og)(hd:og.dst=some d)(hv:a.tmps.getD d undef=.bool c):Region.wanted o (yielded ops a.tmps)=(c==b):=by
 have h1:a.tmps[d]? =some (.bool c):=by
  rw[Array.getD_eq_getD_getElem?]at hv;cases h:a.tmps[d]? with
  | none=>rw[h]at hv;cases hv
  | some x=>rw[h]at hv;exact congrArg some hv
 unfold Region.wanted yielded;rw[hg];simp[hog,hd,h1]
section
variable {P:Program}{o:Oper}{a:Act}{w:World}{K:Act→World→Prop}{Q:Exit→Act→World→Prop}
theorem QfT(op:UnOp)(t:TypeId)(x:Operand)(ho:o.op=.unOp op t x)(vx v:Value)(hx:a.eval x=vx)(hr:(Op.unary op vx).run P w=.ok v w)(h:K (a.put o.dst v) w):o.wp P a w K Q:=by
 unfold Oper.wp;simp only[execOp,ho,hx,Sem.run_bind,hr,Result.andThen_ok,Sem.run_pure,Oper.upon];exact h
theorem QcM(c x y:Operand)(ho:o.op=.pick c x y)(b:Bool)(hc:a.eval c=.bool b)(v:Value)(hv:(if b=true then a.eval x else a.eval y)=v)(h:K (a.put o.dst v) w):o.wp P a w K Q:=by
 subst hv;unfold Oper.wp;simp only[execOp,ho,hc,asBool,Sem.run_bind,Result.andThen_ok,Sem.run_pure,Oper.upon];exact h
end
end Go.Proofs.Pg
