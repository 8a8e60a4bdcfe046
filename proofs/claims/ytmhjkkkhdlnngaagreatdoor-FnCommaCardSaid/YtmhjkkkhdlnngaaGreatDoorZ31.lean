/- FnComma: a last comma changes nothing; for every world. Part 31. -/
import Derived.Test.YtmhjkkkhdlnngaaGreatDoorZ25
import Derived.Test.YtmhjkkkhdlnngaaGreatDoorZ30
import Derived.Laws.Strings
import Derived.Deep.DeepAppendRoom
set_option linter.all false
set_option maxRecDepth 100000
set_option maxHeartbeats 40000000
namespace Go.Proofs.Pg
open Go.RowKit
abbrev bI(b:UInt8):Int:=(b.toNat:Int)
def Asc(t:List UInt8):Prop:=∀b∈t,0<b.toNat∧b.toNat<128
def La(t r:List UInt8)(s:Cs):Prop:=∃pre,t=pre++r∧s.2.er=false∧match r with
 | []=>s.1=-1∧s.2.p=pre.length∧s.2.lcl=0
 | c::_=>s.1=bI c∧s.2.p=pre.length+1∧s.2.lcl=1
theorem Qh3{c:UInt8}{r:List UInt8}(h:c.toNat<128):dec (c::r)=(c.toNat,1):=by
 unfold dec;rw[if_neg (by simp)];unfold Lib.decodeN;simp[h]
theorem nxt_la{t pre r:List UInt8}{σ:Sc}(hA:Asc t)(ht:t=pre++r)(he:σ.er=false)(hp:σ.p=pre.length):La t r (nxt t σ):=by
 cases r with
 | nil =>
  unfold nxt;rw[if_pos (by rw[ht];simp[hp])];exact⟨pre,ht,he,rfl,hp,rfl⟩
 | cons c r =>
  have hd:t.drop σ.p=c::r:=by rw[hp,ht];simp
  obtain⟨h0,h1⟩:=hA c (by rw[ht];simp);unfold nxt;rw[if_neg (by rw[ht,hp];simp),hd,Qh3 h1];simp only;rw[if_neg (by omega),if_neg (by omega)];split
  ·rename_i h10
   exact⟨pre,ht,he,by simp[bI,h10],by simp[hp],rfl⟩
  ·exact⟨pre,ht,he,rfl,by simp[hp],rfl⟩
theorem La.nxt{t r:List UInt8}{c:UInt8}{s:Cs}(hA:Asc t)(h:La t (c::r) s):La t r (nxt t s.2):=by
 obtain⟨pre,ht,he,h1,h2,h3⟩:=h;exact nxt_la hA (pre:=pre++[c]) (by simp[ht]) he (by simp[h2])
theorem La.of{t r:List UInt8}{s s':Cs}(h:La t r s)(e1:s'.1=s.1)(e2:s'.2.er=s.2.er)(e3:s'.2.p=s.2.p)(e4:s'.2.lcl=s.2.lcl):La t r s':=by
 obtain⟨pre,ht,he,h⟩:=h;refine⟨pre,ht,e2.trans he,?_⟩;cases r with
 | nil=>exact⟨e1.trans h.1,e3.trans h.2.1,e4.trans h.2.2⟩
 | cons c r=>exact⟨e1.trans h.1,e3.trans h.2.1,e4.trans h.2.2⟩
theorem La.at{t r:List UInt8}{s:Cs}(h:La t r s):s.2.p-s.2.lcl=t.length-r.length∧s.2.lcl≤s.2.p:=by
 obtain⟨pre,ht,he,h⟩:=h;cases r with
 | nil=>rw[h.2.1,h.2.2,ht];simp
 | cons c r=>rw[h.2.1,h.2.2,ht];simp
theorem La.sfx{t r:List UInt8}{s:Cs}(h:La t r s):∃pre,t=pre++r:=⟨h.choose,h.choose_spec.1⟩
theorem La.ch{t r:List UInt8}{s:Cs}(h:La t r s):-1≤s.1:=by
 obtain⟨pre,ht,he,h⟩:=h;cases r with
 | nil=>rw[h.1];exact Int.le_refl _
 | cons c r=>rw[h.1];unfold bI;omega
theorem La.run{P:Int→Bool}{t:List UInt8}{g:Nat→Cs→Cs}(hg:∀f s,g (f+1) s=if P s.1=true then g f (Pg.nxt t s.2)else s)(hm:P (-1)=false)(hA:Asc t)(r:List UInt8)(hr:∀c r',r=c::r'→P (bI c)=false) :
  ∀(xs:List UInt8)(f:Nat)(s:Cs),(∀x∈xs,P (bI x)=true)→xs.length<f→La t (xs++r) s→La t r (g f s)
 | _,0,_,_,hf,_=>absurd hf (Nat.not_lt_zero _)
 | [],f+1,s,_,_,h=>by
  rw[hg];have hc:P s.1=false:=by
   obtain⟨pre,ht,he,h1⟩:=h;cases r with
   | nil=>rw[h1.1];exact hm
   | cons c r=>rw[h1.1];exact hr c r rfl
  rw[hc,if_neg (by simp)];exact h
 | x::xs,f+1,s,hx,hf,h=>by
  rw[hg];have hc:P s.1=true:=by
   obtain⟨pre,ht,he,h1⟩:=h;rw[h1.1];exact hx x (by simp)
  rw[if_pos hc];exact La.run hg hm hA r hr xs f _ (fun y hy=>hx y (by simp[hy])) (by simpa using hf) (La.nxt hA h)
def Nt(t r:List UInt8)(σ:Sc):Prop:=La t r (QaG t σ)
theorem Nt0{t:List UInt8}(hA:Asc t):Nt t t σ0:=by
 have h:=nxt_la (pre:=[]) (r:=t) (σ:=σ0) hA rfl rfl rfl;unfold Nt QaG;rw[if_pos (show σ0.ch=-2 from rfl)];exact h.of rfl rfl rfl rfl
theorem nt_of{t r:List UInt8}{s:Cs}(h:La t r s):Nt t r {s.2 with ch:=s.1}:=by
 have:=h.ch;unfold Nt QaG;rw[if_neg (by simp only;omega)];exact h.of rfl rfl rfl rfl
def TkC(t x r:List UInt8)(kind:Int)(σ:Sc):Prop:=(Qa3 t σ).1.ty=(if kind=1∧Qdv ⟨x.toArray⟩then 3 else kind)∧(Qa3 t σ).1.tx=⟨x.toArray⟩∧Nt t r (Qa3 t σ).2∧(Qa3 t σ).2.er=false
theorem Qdz{t x r:List UInt8}{σ:Sc}{kind:Int}{v:Cs}(h:Qb4 t (t.length+3) (QaG t σ)=(kind,v))(hv:La t r v)(hts:v.2.ts=some (t.length-(x++r).length))(hs:∃pre,t=pre++(x++r)):TkC t x r kind σ:=by
 have htx:(Qdx t kind v.2).tx=⟨x.toArray⟩:=by
  unfold Qdx;simp only[hts,Option.map_some,Option.getD_some,tokT,hv.at.1];obtain⟨pre,hp⟩:=hs;have e1:t.length-(x++r).length=pre.length:=by rw[hp];simp
  have e2:t.length-r.length-pre.length=x.length:=by rw[hp];simp;omega
  rw[e1,e2,hp,List.drop_append_of_le_length (Nat.le_refl _),List.drop_length,List.nil_append,List.take_append_of_le_length (Nat.le_refl _),List.take_length]
 unfold TkC Qa3;rw[h];simp only;refine⟨?_,htx,nt_of hv,?_⟩
 ·rw[←htx];rfl
 ·obtain⟨_,_,he,_⟩:=hv
  exact he
theorem Qd0{t ws x:List UInt8}{s:Cs}(hA:Asc t)(h:La t (ws++x) s)(hw:∀b∈ws,isWs (bI b)=true)(hx:∀c r,x=c::r→isWs (bI c)=false):La t x (QaA t s)∧La t x ((QaA t s).1,QaJ (QaA t s).2)∧(QaJ (QaA t s).2).ts=some (t.length-x.length):=by
 have hl:(ws++x).length≤t.length:=by obtain⟨pre,e⟩:=h.sfx;rw[e];simp
 have h1:La t x (QaA t s):=La.run (P:=isWs) (g:=wsL t) (fun f s=>rfl) rfl hA x hx ws _ _ hw (by rw[List.length_append]at hl;omega) h;exact⟨h1,h1.of rfl rfl rfl rfl,by rw[←h1.at.1];rfl⟩
theorem Qd1(t:List UInt8)(f:Nat)(s:Cs):Qb4 t (f+1) s=(
  let u:=QaA t s
  let σ:=QaJ u.2
  if u.1=-1 then(0,(u.1,σ))
  else if isId u.1 true=true then(1,Qc3 t σ)
  else if QaZ u.1=true then(2,QbN t (u.1,σ))
  else if u.1=34 then(4,nxt t (QbC t σ))
  else if u.1=47 then(let v:=nxt t σ;if v.1=47∨v.1=42 then Qb4 t f (QaT t (v.1,{v.2 with ts:=none}))else Qbo t 47 v)
  else Qbo t u.1 (nxt t σ)):=rfl
theorem QcB{t r:List UInt8}{c:UInt8}{s:Cs}(h:La t (c::r) s):s.1=bI c:=h.choose_spec.2.2.1
theorem Qf5{t ws x r:List UInt8}{s:Cs}(h:La t (ws++(x++r)) s):∃pre,t=pre++(x++r):=by
 obtain⟨pre,e⟩:=h.sfx;exact⟨pre++ws,by rw[e];simp⟩
theorem tk_id{t ws xs r:List UInt8}{c:UInt8}{σ:Sc}(hA:Asc t)(h:Nt t (ws++((c::xs)++r)) σ)(hw:∀b∈ws,isWs (bI b)=true)(hc:isId (bI c) true=true)(hc2:isWs (bI c)=false)(hx:∀b∈xs,isId (bI b) false=true)(hr:∀d r',r=d::r'→isId (bI d) false=false):TkC t (c::xs) r 1 σ:=by
 obtain⟨h1,h2,h3⟩:=Qd0 hA h hw (fun d r' e=>by cases e;exact hc2);have hh:=QcB h1;have hl:(c::xs++r).length≤t.length:=by obtain⟨pre,e⟩:=h2.sfx;rw[e];simp
 have h4:=La.nxt hA h2;have h5:La t r (Qc3 t (QaJ (QaA t (QaG t σ)).2)):=La.run (P:=fun c=>isId c false) (g:=idL t) (fun f s=>rfl) rfl hA r hr xs _ _ hx (by simp at hl;omega) h4;refine Qdz (kind:=1) ?_ h5 ?_ (Qf5 h)
 ·rw[Qd1]
  simp only;rw[hh,if_neg (by unfold bI;omega),if_pos hc]
 ·rw[←h3]
  exact((Kp.nxt t _).trans (Kp.id t _ _)).1
theorem tk_num{t ws xs r:List UInt8}{c:UInt8}{σ:Sc}(hA:Asc t)(h:Nt t (ws++((c::xs)++r)) σ)(hw:∀b∈ws,isWs (bI b)=true)(hx:∀b∈c::xs,QaZ (bI b)=true)(hr:∀d r',r=d::r'→QaZ (bI d)=false):TkC t (c::xs) r 2 σ:=by
 have hc:=hx c (by simp);have hc':48≤c.toNat∧c.toNat≤57:=by have h:=hc;simp[QaZ,bI]at h;omega
 obtain⟨h1,h2,h3⟩:=Qd0 hA h hw (fun d r' e=>by cases e;simp[isWs,bI];omega);have hh:=QcB h1;have hl:(c::xs++r).length≤t.length:=by obtain⟨pre,e⟩:=h2.sfx;rw[e];simp
 have h5:La t r (QbN t ((QaA t (QaG t σ)).1,QaJ (QaA t (QaG t σ)).2)):=La.run (P:=QaZ) (g:=numL t) (fun f s=>rfl) rfl hA r hr (c::xs) _ _ hx (by simp at hl ⊢;omega) h2;refine Qdz (kind:=2) ?_ h5 ?_ (Qf5 h)
 ·rw[Qd1]
  simp only;rw[if_neg (by rw[hh];unfold bI;omega),if_neg (by rw[hh];simp[isId,Qe1,hc,bI];omega),if_pos (by rw[hh];exact hc)]
 ·rw[←h3]
  exact(Kp.num t _ _).1
def plain(b:UInt8):Bool:=b != 34&&b != 10&&b != 92
theorem La.str{t:List UInt8}(hA:Asc t)(r:List UInt8):∀(xs:List UInt8)(f:Nat)(s:Cs),(∀x∈xs,plain x=true)→xs.length<f→La t (xs++34::r) s→∃s',La t (34::r) s'∧strL t f s=s'.2
 | _,0,_,_,hf,_=>absurd hf (Nat.not_lt_zero _)
 | [],f+1,s,_,_,h=>by
  have h1:=QcB h;refine⟨s,h,?_⟩;rw[strL,if_pos (show s.1=34 from h1)]
 | x::xs,f+1,s,hx,hf,h=>by
  have h1:=QcB h;have h2:=hx x (by simp);have h3:¬bI x=34∧¬bI x=10∧¬bI x=92:=by
   simp[plain]at h2;refine⟨fun e=>h2.1.1 ?_,fun e=>h2.1.2 ?_,fun e=>h2.2 ?_⟩<;>exact UInt8.toNat_inj.1 (by unfold bI at e;simp;omega)
  obtain⟨s',k1,k2⟩:=La.str hA r xs f _ (fun y hy=>hx y (by simp[hy])) (by simpa using hf) (La.nxt hA h);refine⟨s',k1,?_⟩;rw[strL,h1,if_neg h3.1,if_neg (by have:=h3.2.1;unfold bI at *;omega),if_neg h3.2.2];exact k2
theorem tk_str{t ws xs r:List UInt8}{σ:Sc}(hA:Asc t)(h:Nt t (ws++((34::(xs++[34]))++r)) σ)(hw:∀b∈ws,isWs (bI b)=true)(hx:∀b∈xs,plain b=true):TkC t (34::(xs++[34])) r 4 σ:=by
 obtain⟨h1,h2,h3⟩:=Qd0 hA h hw (fun d r' e=>by cases e;rfl);have hh:=QcB h1;have hl:((34::(xs++[34]))++r).length≤t.length:=by obtain⟨pre,e⟩:=h2.sfx;rw[e];simp
 have h4:La t ((xs++[34])++r) _:=La.nxt hA h2;rw[List.append_assoc]at h4;obtain⟨s',k1,k2⟩:=La.str hA r xs (t.length+2) _ hx (by simp at hl;omega) h4;refine Qdz (kind:=4) (v:=nxt t s'.2) ?_ (La.nxt hA k1) ?_ (Qf5 h)
 ·rw[Qd1]
  simp only;rw[hh,if_neg (by decide),if_neg (by decide),if_neg (by decide),if_pos (show bI 34=34 from rfl),←k2];rfl
 ·rw[←h3,(Kp.nxt t _).1,←k2,(Kp.str t _ _).1]
  exact(Kp.nxt t _).1
theorem tk_op{t ws r:List UInt8}{c:UInt8}{σ:Sc}(hA:Asc t)(h:Nt t (ws++([c]++r)) σ)(hw:∀b∈ws,isWs (bI b)=true)(hc:Qee (bI c)=true∨c=58∧∀d r',r=d::r'→d≠58)(hn:isId (bI c) true=false)(hm:QaZ (bI c)=false)(hq:bI c≠34)(hs:bI c≠47)(hws:isWs (bI c)=false):TkC t [c] r 5 σ:=by
 obtain⟨h1,h2,h3⟩:=Qd0 hA h hw (fun d r' e=>by cases e;exact hws);have hh:=QcB h1;have h4:=La.nxt hA h2;refine Qdz (kind:=5) (v:=nxt t (QaJ (QaA t (QaG t σ)).2)) ?_ h4 ?_ (Qf5 h)
 ·rw[Qd1]
  simp only;rw[hh,if_neg (by unfold bI;omega),if_neg (by rw[hn];simp),if_neg (by rw[hm];simp),if_neg hq,if_neg hs];unfold Qbo;rcases hc with hc | ⟨rfl,hc⟩
  ·rw[if_pos hc]
  ·rw[if_neg (by decide),if_pos (by rfl),if_neg ?_]
   cases r with
   | nil=>obtain⟨_,_,_,e,_⟩:=h4;rw[e];decide
   | cons d r =>
    rw[QcB h4];intro e;exact hc d r rfl (UInt8.toNat_inj.1 (by unfold bI at e;simp;omega))
 ·rw[←h3]
  exact(Kp.nxt t _).1
def fk(k:Tok):Int×ByteArray:=(k.ty,k.tx)
def Rd(t r:List UInt8)(K:List (Int×ByteArray)):Prop:=K.length≤r.length∧∀σ,Nt t r σ→∀f acc,K.length<f→∃ts,Qde t f acc (Qa3 t σ)=some (acc++ts)∧ts.map fk=K++[(0,⟨#[]⟩)]
theorem Rd.nil{t ws:List UInt8}(hA:Asc t)(hw:∀b∈ws,isWs (bI b)=true):Rd t ws []:=by
 refine⟨Nat.zero_le _,fun σ h f acc hf=>?_⟩;obtain⟨f,rfl⟩:∃g,f=g+1:=⟨f-1,by simp at hf;omega⟩
 have hh:La t (ws++[]) (QaG t σ):=by rw[List.append_nil];exact h
 obtain⟨h1,h2,h3⟩:=Qd0 hA hh hw (fun d r' e=>by cases e);have h5:Qb4 t (t.length+3) (QaG t σ)=(0,((QaA t (QaG t σ)).1,QaJ (QaA t (QaG t σ)).2)):=by
  rw[Qd1];simp only;rw[if_pos];exact h1.choose_spec.2.2.1
 have h6:TkC t [] [] 0 σ:=Qdz (x:=[]) (r:=[]) h5 h2 h3 ⟨t,by simp⟩;obtain⟨k1,k2,k3,k4⟩:=h6;refine⟨[Qf4 (Qa3 t σ).2],?_,rfl⟩;rw[Qde,k4,if_neg (by simp),if_pos (by rw[k1];rfl)]
theorem Rd.tok{t x r:List UInt8}{kind:Int}{b:ByteArray}{K:List (Int×ByteArray)}(step:∀σ,Nt t (x++r) σ→(Qa3 t σ).1.ty=kind∧(Qa3 t σ).1.tx=b∧Nt t r (Qa3 t σ).2∧(Qa3 t σ).2.er=false)(hx:1≤x.length)(h0:kind≠0)(h:Rd t r K):Rd t (x++r) ((kind,b)::K):=by
 refine⟨by have:=h.1;rw[List.length_append,List.length_cons];omega,fun σ hσ f acc hf=>?_⟩;obtain⟨f,rfl⟩:∃g,f=g+1:=⟨f-1,by simp at hf;omega⟩
 obtain⟨k1,k2,k3,k4⟩:=step σ hσ;obtain⟨ts,e1,e2⟩:=h.2 _ k3 f (acc++[(Qa3 t σ).1]) (by simpa using hf);refine⟨(Qa3 t σ).1::ts,?_,?_⟩
 ·rw[Qde,k4,if_neg (by simp),if_neg (by rw[k1];exact h0),e1]
  simp
 ·rw[List.map_cons,e2,fk,k1,k2]
  rfl
theorem Rd.all{t:List UInt8}{K:List (Int×ByteArray)}(hA:Asc t)(h:Rd t t K):∃ts,toks t=some ts∧ts.map fk=K++[(0,⟨#[]⟩)]:=by
 obtain⟨ts,e1,e2⟩:=h.2 σ0 (Nt0 hA) (t.length+3) [] (by have:=h.1;omega);exact⟨ts,by unfold toks;rw[e1];rfl,e2⟩
theorem Rd.id{t ws xs r:List UInt8}{c:UInt8}{K:List (Int×ByteArray)}(hA:Asc t)(h:Rd t r K)(hw:∀b∈ws,isWs (bI b)=true)(hc:isId (bI c) true=true)(hc2:isWs (bI c)=false)(hx:∀b∈xs,isId (bI b) false=true)(hr:∀d r',r=d::r'→isId (bI d) false=false):Rd t (ws++(c::xs)++r) ((if Qdv ⟨(c::xs).toArray⟩then 3 else 1,⟨(c::xs).toArray⟩)::K) :=
 h.tok (fun σ hσ=>by
  rw[List.append_assoc]at hσ;obtain⟨k1,k2⟩:=tk_id hA hσ hw hc hc2 hx hr;exact⟨by rw[k1];simp,k2⟩) (by simp;omega) (by split<;>decide)
theorem Rd.num{t ws xs r:List UInt8}{c:UInt8}{K:List (Int×ByteArray)}(hA:Asc t)(h:Rd t r K)(hw:∀b∈ws,isWs (bI b)=true)(hx:∀b∈c::xs,QaZ (bI b)=true)(hr:∀d r',r=d::r'→QaZ (bI d)=false):Rd t (ws++(c::xs)++r) ((2,⟨(c::xs).toArray⟩)::K) :=
 h.tok (fun σ hσ=>by
  rw[List.append_assoc]at hσ;obtain⟨k1,k2⟩:=tk_num hA hσ hw hx hr;exact⟨by rw[k1];rfl,k2⟩) (by simp;omega) (by decide)
theorem Rd.str{t ws xs r:List UInt8}{K:List (Int×ByteArray)}(hA:Asc t)(h:Rd t r K)(hw:∀b∈ws,isWs (bI b)=true)(hx:∀b∈xs,plain b=true):Rd t (ws++(34::(xs++[34]))++r) ((4,⟨(34::(xs++[34])).toArray⟩)::K) :=
 h.tok (fun σ hσ=>by
  rw[List.append_assoc]at hσ;obtain⟨k1,k2⟩:=tk_str hA hσ hw hx;exact⟨by rw[k1];rfl,k2⟩) (by simp;omega) (by decide)
theorem Rd.op{t ws r:List UInt8}{c:UInt8}{K:List (Int×ByteArray)}(hA:Asc t)(h:Rd t r K)(hw:∀b∈ws,isWs (bI b)=true)(hc:Qee (bI c)=true∨c=58∧∀d r',r=d::r'→d≠58)(hn:(!(isId (bI c) true)&&!(QaZ (bI c))&&bI c != 34&&bI c != 47&&!(isWs (bI c)))=true):Rd t (ws++[c]++r) ((5,⟨#[c]⟩)::K) :=
 h.tok (fun σ hσ=>by
  rw[List.append_assoc]at hσ;simp only[Bool.and_eq_true,Bool.not_eq_true',bne_iff_ne]at hn;obtain⟨⟨⟨⟨n1,n2⟩,n3⟩,n4⟩,n5⟩:=hn;obtain⟨k1,k2⟩:=tk_op hA hσ hw hc n1 n2 n3 n4 n5;exact⟨by rw[k1];rfl,k2⟩) (by simp) (by decide)
abbrev Kd:=List (Int×ByteArray)
def Hk(ts:Toks)(K:Kd):Prop:=ts.map fk=K++[(0,⟨#[]⟩)]
theorem Hk.ne{ts:Toks}{K:Kd}(h:Hk ts K):ts≠[]:=by
 rintro rfl;cases K<;>cases h
theorem Hk.get{ts:Toks}{K:Kd}{a:Int}{b:ByteArray}(h:Hk ts ((a,b)::K)):ty ts=a∧tx ts=b.data.toList∧(hd ts).tx=b∧Hk (adv ts) K∧ts.length=(adv ts).length+1:=by
 cases ts with
 | nil=>cases h
 | cons k ts =>
  have h':fk k::ts.map fk=(a,b)::(K++[(0,⟨#[]⟩)]):=h;obtain⟨h1,h2⟩:=List.cons.inj h';have h3:k.ty=a:=congrArg Prod.fst h1;have h4:k.tx=b:=congrArg Prod.snd h1;cases ts with
  | nil=>cases K<;>cases h2
  | cons u ts =>
   refine⟨h3,?_,h4,h2,rfl⟩;show k.tx.toList=_;rw[ByteArray.toList_eq,h4]
theorem Hk.end{ts:Toks}(h:Hk ts []):ty ts=0∧tx ts=[]:=by
 cases ts with
 | nil=>cases h
 | cons k ts =>
  have h':fk k::ts.map fk=[(0,⟨#[]⟩)]:=h;obtain⟨h1,h2⟩:=List.cons.inj h';have h3:k.ty=0:=congrArg Prod.fst h1;have h4:k.tx=⟨#[]⟩:=congrArg Prod.snd h1;refine⟨h3,?_⟩;show k.tx.toList=_;rw[ByteArray.toList_eq,h4]
theorem Hk.len{ts:Toks}{K:Kd}(h:Hk ts K):ts.length=K.length+1:=by
 have:=congrArg List.length h;simpa using this
theorem QbO{s:List UInt8}{ts:Toks}{K:Kd}{a:Int}{b:ByteArray}(h:Hk ts ((a,b)::K))(hb:b.data.toList=s):exact s ts=some (adv ts):=by
 unfold exact;rw[h.get.2.1,hb,if_pos (by simp)]
def stops:List (List UInt8):=[[44],[93],[41],[125]]
theorem QbU{x s:List UInt8}(h:x∈stops)(hs:s∉stops):¬(x==s)=true:=by
 intro e;rw[beq_iff_eq]at e;subst e;exact hs h
section
variable {L:Lex}{E:Toks→Option (Ex×Toks)}
theorem Qd2{ts us:Toks}{x:Ex}(h1:tx ts≠[105,102])(h2:tx ts≠[45])(h3:tx ts≠[33])(hm:member L E ts=some (x,us))(hu:tx us∈stops):QbH L E ts=some (x,us):=by
 have n1:∀s,s∉stops→¬(tx us==s)=true:=fun s hs=>QbU hu hs
 have eu:unary L E ts=some (x,us):=by
  have ho:opsL (ts.length+1) [] ts=([],ts):=by rw[opsL,if_neg (by simpa using h2),if_neg (by simpa using h3)]
  unfold unary;simp only[ho,List.getLast?_nil];rw[if_neg (by rintro ⟨h,_⟩;cases h),hm];rfl
 have em:mult L E ts=some (x,us):=by
  unfold mult;rw[eu];simp only;rw[Qcj,if_neg (n1 _ (by decide))]
 have ea:add L E ts=some (x,us):=by
  unfold add;rw[em];simp only;rw[addL,if_neg (n1 _ (by decide)),if_neg (n1 _ (by decide))]
 have er:relation L E ts=some (x,us):=by
  unfold relation;rw[ea];simp only;rw[if_neg (n1 _ (by decide)),if_neg (n1 _ (by decide)),if_neg (n1 _ (by decide))];have:QbM (tx us)=none:=by
   unfold QbM;rw[if_neg (n1 _ (by decide)),if_neg (n1 _ (by decide)),if_neg (n1 _ (by decide)),if_neg (n1 _ (by decide)),if_neg (n1 _ (by decide)),if_neg (n1 _ (by decide)),if_neg (n1 _ (by decide))]
  rw[this]
 have en:Pg.and L E ts=some (x,us):=by
  unfold Pg.and;rw[er];simp only;rw[andL,if_neg (n1 _ (by decide))]
 have eo:Pg.or L E ts=some (x,us):=by
  unfold Pg.or;rw[en];simp only;rw[orL,if_neg (n1 _ (by decide))]
 unfold QbH;rw[if_neg (by simpa using h1)];exact eo
theorem Qdk{ts us:Toks}{x:Ex}(hp:primary L E ts=some (x,us))(hu:tx us∈stops):member L E ts=some (x,us):=by
 have n1:∀s,s∉stops→¬(tx us==s)=true:=fun s hs=>QbU hu hs
 unfold member;rw[hp];simp only;rw[memL];unfold access;rw[if_neg (n1 _ (by decide)),if_neg (n1 _ (by decide))]
theorem prim_num{ts:Toks}{K:Kd}{b:ByteArray}{n:Int}(h:Hk ts ((2,b)::K))(hn:L.int b=some n):primary L E ts=some (.val (.long n),adv ts):=by
 obtain⟨h1,h2,h3,_⟩:=h.get;unfold primary;rw[h1,if_pos (by decide),h3,hn]
theorem Qf6{ts us:Toks}{K:Kd}{l:List Ex}(h:Hk ts ((5,⟨#[91]⟩)::K))(hl:Qbr E [93] (adv ts)=some (l,us)):primary L E ts=some (.set l,adv us):=by
 obtain⟨h1,h2,h3,_⟩:=h.get;unfold primary;rw[h1,h2,if_neg (by decide),if_neg (by decide),if_neg (by decide),if_neg (by decide),if_neg (by decide),if_neg (by decide),if_pos (by decide),hl]
theorem prim_rec{ts us:Toks}{K:Kd}{l:List (ByteArray×Ex)}(h:Hk ts ((5,⟨#[123]⟩)::K))(hl:recd L E (adv ts)=some (l,us)):primary L E ts=some (.recd l,us):=by
 obtain⟨h1,h2,h3,_⟩:=h.get;unfold primary;rw[h1,h2,if_neg (by decide),if_neg (by decide),if_neg (by decide),if_neg (by decide),if_neg (by decide),if_neg (by decide),if_neg (by decide),if_pos (by decide),hl]
end
structure Nm(L:Lex)(b:ByteArray)(n:Int):Prop where
 int:L.int b=some n
 h1:b.data.toList≠[105,102]∧b.data.toList≠[45]∧b.data.toList≠[33]∧b.data.toList≠[93]
theorem Qf7{L:Lex}{f:Nat}{ts:Toks}{K:Kd}{b:ByteArray}{n:Int}(h:Hk ts ((2,b)::K))(hn:Nm L b n)(hu:tx (adv ts)∈stops):expr L (f+1) ts=some (.val (.long n),adv ts):=by
 have h2:=h.get.2.1;rw[expr];exact Qd2 (by rw[h2];exact hn.h1.1) (by rw[h2];exact hn.h1.2.1) (by rw[h2];exact hn.h1.2.2.1) (Qdk (prim_num h hn.int) hu) hu
abbrev cm:Int×ByteArray:=(5,⟨#[44]⟩)
def Qeh(l:List ByteArray):Kd:=l.flatMap fun b=>[cm,(2,b)]
theorem tx_stop{ts:Toks}{l:List ByteArray}{tr:Bool}{c:ByteArray}{K:Kd}(h:Hk ts (Qeh l++((if tr=true then [cm]else [])++(5,c)::K)))(hc:c.data.toList∈stops):tx ts∈stops:=by
 cases l with
 | nil=>cases tr with
  | true=>rw[(show Hk ts (cm::_)from h).get.2.1];decide
  | false=>rw[(show Hk ts ((5,c)::K)from h).get.2.1];exact hc
 | cons b l=>rw[(show Hk ts (cm::_)from h).get.2.1];decide
inductive Nms(L:Lex):List ByteArray→List Int→Prop
 | nil:Nms L [] []
 | cons {b:ByteArray}{n:Int}{l:List ByteArray}{ns:List Int}(h:Nm L b n)(hl:Nms L l ns):Nms L (b::l) (n::ns)
theorem nums_e{L:Lex}{m:Nat}{c:ByteArray}(hc:c.data.toList=[93])(tr:Bool)(K:Kd):∀(l:List ByteArray)(b:ByteArray)(n:Int)(ns:List Int)(f:Nat)(acc:List Ex)(ts:Toks),Hk ts ((2,b)::(Qeh l++((if tr=true then [cm]else [])++(5,c)::K)))→Nm L b n→Nms L l ns→l.length+1<f →
  ∃us,QaE (expr L (m+1)) [93] f acc ts=some (acc++(n::ns).map fun n=>.val (.long n),us)∧Hk us ((5,c)::K)
 | _,_,_,_,0,_,_,_,_,_,hf=>absurd hf (Nat.not_lt_zero _)
 | l,b,n,ns,f+1,acc,ts,h,hn,hl,hf=>by
  obtain⟨g1,g2,g3,g4,g5⟩:=h.get;have hs:=tx_stop g4 (by rw[hc];decide);have he:=Qf7 (f:=m) h hn hs;rw[QaE,if_neg (by rw[g2];simpa using hn.h1.2.2.2),he];simp only;cases hl with
  | nil =>
   cases tr with
   | false =>
    have k:Hk (adv ts) ((5,c)::K):=g4;rw[if_neg (by rw[k.get.2.1,hc];decide),if_pos (by rw[k.get.2.1,hc];decide)];exact⟨_,rfl,k⟩
   | true =>
    have k:Hk (adv ts) (cm::(5,c)::K):=g4;obtain⟨f,rfl⟩:∃g,f=g+1:=⟨f-1,by simp at hf;omega⟩
    rw[if_pos (by rw[k.get.2.1];decide),QaE,if_pos (by rw[k.get.2.2.2.1.get.2.1,hc];decide)];exact⟨_,rfl,k.get.2.2.2.1⟩
  | cons hb hl =>
   rename_i b' n' l' ns';have k:Hk (adv ts) (cm::(2,b')::(Qeh l'++((if tr=true then [cm]else [])++(5,c)::K))):=g4;rw[if_pos (by rw[k.get.2.1];decide)];obtain⟨us,e1,e2⟩:=nums_e hc tr K l' b' n' ns' f (acc++[.val (.long n)]) _ k.get.2.2.2.1 hb hl (by simp at hf;omega);exact⟨us,by rw[e1];simp,e2⟩
structure En where
 kb:ByteArray
 k:ByteArray
 b:ByteArray
 n:Int
def enK(e:En):Kd:=[(4,e.kb),(5,⟨#[58]⟩),(2,e.b)]
def Qei(l:List En):Kd:=l.flatMap fun e=>cm::enK e
structure EnOk(L:Lex)(e:En):Prop where
 str:L.str e.kb=some e.k
 nb:e.kb.data.toList≠[125]
 num:Nm L e.b e.n
theorem tx_stopR{ts:Toks}{l:List En}{tr:Bool}{c:ByteArray}{K:Kd}(h:Hk ts (Qei l++((if tr=true then [cm]else [])++(5,c)::K)))(hc:c.data.toList∈stops):tx ts∈stops:=by
 cases l with
 | nil=>cases tr with
  | true=>rw[(show Hk ts (cm::_)from h).get.2.1];decide
  | false=>rw[(show Hk ts ((5,c)::K)from h).get.2.1];exact hc
 | cons b l=>rw[(show Hk ts (cm::_)from h).get.2.1];decide
theorem recs_e{L:Lex}{m:Nat}{c:ByteArray}(hc:c.data.toList=[125])(tr:Bool)(K:Kd):∀(l:List En)(e:En)(f:Nat)(acc:List (ByteArray×Ex))(ts:Toks),Hk ts (enK e++(Qei l++((if tr=true then [cm]else [])++(5,c)::K)))→EnOk L e→(∀e∈l,EnOk L e)→(acc.map (fun p=>p.1.toList)++(e::l).map fun e=>e.k.toList).Nodup→l.length+1<f →
  ∃us,Qbz L (expr L (m+1)) f acc ts=some (acc++(e::l).map fun e=>(e.k,.val (.long e.n)),us)∧Hk us K
 | _,_,0,_,_,_,_,_,_,hf=>absurd hf (Nat.not_lt_zero _)
 | l,e,f+1,acc,ts,h,he,hl,hnd,hf=>by
  obtain⟨g1,g2,g3,g4,g5⟩:=(show Hk ts ((4,e.kb)::(5,⟨#[58]⟩)::(2,e.b)::(Qei l++((if tr=true then [cm]else [])++(5,c)::K)))from h).get;obtain⟨i1,i2,i3,i4,i5⟩:=g4.get;have hs:=tx_stopR i4.get.2.2.2.1 (by rw[hc];decide);have hx:=Qf7 (f:=m) i4 he.num hs;have hen:entry L (expr L (m+1)) ts=some ((e.k,.val (.long e.n)),adv (adv (adv ts))):=by
   unfold entry key;rw[g1,if_neg (by decide),if_pos (by decide),g3,he.str];simp only;rw[QbO g4 rfl];simp only;rw[hx]
  have hno:(acc.any fun p=>p.1.toList==e.k.toList)=false:=by
   rw[List.any_eq_false];intro p hp hq;rw[beq_iff_eq]at hq;have h2:=(List.nodup_append.1 hnd).2.2;exact h2 _ (List.mem_map_of_mem hp) _ (by simp) hq
  rw[Qbz,if_neg (by rw[g2];simpa using he.nb),hen];simp only;rw[hno,if_neg (by simp)];cases l with
  | nil =>
   cases tr with
   | false =>
    have k:Hk (adv (adv (adv ts))) ((5,c)::K):=i4.get.2.2.2.1;rw[if_neg (by rw[k.get.2.1,hc];decide),if_pos (by rw[k.get.2.1,hc];decide)];exact⟨_,rfl,k.get.2.2.2.1⟩
   | true =>
    have k:Hk (adv (adv (adv ts))) (cm::(5,c)::K):=i4.get.2.2.2.1;obtain⟨f,rfl⟩:∃g,f=g+1:=⟨f-1,by simp at hf;omega⟩
    rw[if_pos (by rw[k.get.2.1];decide),Qbz,if_pos (by rw[k.get.2.2.2.1.get.2.1,hc];decide)];exact⟨_,rfl,k.get.2.2.2.1.get.2.2.2.1⟩
  | cons e' l' =>
   have k:Hk (adv (adv (adv ts))) (cm::(enK e'++(Qei l'++((if tr=true then [cm]else [])++(5,c)::K)))):=by
    have:=i4.get.2.2.2.1;simpa [Qei]using this
   rw[if_pos (by rw[k.get.2.1];decide)];obtain⟨us,e1,e2⟩:=recs_e hc tr K l' e' f (acc++[(e.k,.val (.long e.n))]) _ k.get.2.2.2.1 (hl _ (by simp)) (fun x hx=>hl x (by simp[hx])) (by simpa using hnd) (by simp at hf;omega);exact⟨us,by rw[e1];simp,e2⟩
abbrev headK(p1 p2 p3 p4 p5:Int):Kd:=[(p1,⟨#[112,101,114,109,105,116]⟩),(5,⟨#[40]⟩),(p2,⟨#[112,114,105,110,99,105,112,97,108]⟩),cm,(p3,⟨#[97,99,116,105,111,110]⟩),cm,(p4,⟨#[114,101,115,111,117,114,99,101]⟩),(5,⟨#[41]⟩),(p5,⟨#[119,104,101,110]⟩),(5,⟨#[123]⟩)]
theorem policy_k{L:Lex}{E:Toks→Option (Ex×Toks)}{ts:Toks}{X:Kd}{x:Ex}{p1 p2 p3 p4 p5:Int}(h:Hk ts (headK p1 p2 p3 p4 p5++(X++[(5,⟨#[125]⟩),(5,⟨#[59]⟩)])))(hE:∀us,Hk us (X++[(5,⟨#[125]⟩),(5,⟨#[59]⟩)])→∃vs,E us=some (x,vs)∧Hk vs [(5,⟨#[125]⟩),(5,⟨#[59]⟩)]) :
  ∃P us,Qa2 L E ts=some (P,us)∧P.cs=[(true,x)]:=by
 have k1:=h;have k2:=k1.get.2.2.2.1;have k3:=k2.get.2.2.2.1;have k4:=k3.get.2.2.2.1;have k5:=k4.get.2.2.2.1;have k6:=k5.get.2.2.2.1;have k7:=k6.get.2.2.2.1;have k8:=k7.get.2.2.2.1;have k9:=k8.get.2.2.2.1;have k10:=k9.get.2.2.2.1;have k11:Hk _ (X++[(5,⟨#[125]⟩),(5,⟨#[59]⟩)]):=k10.get.2.2.2.1;obtain⟨vs,e1,k12⟩:=hE _ k11;have k13:=k12.get.2.2.2.1;have n1:notes L ts=some ([],ts):=by
  unfold notes;rw[Qb9,if_neg (by rw[k1.get.2.1];decide)]
 have n2:effM ts=some (true,adv ts):=by
  unfold effM;rw[if_pos (by rw[k1.get.2.1];decide)]
 have n3:∀(wd:List UInt8)(us:Toks)(K:Kd)(a:Int)(b:ByteArray)(c:Int×ByteArray),Hk us ((a,b)::c::K)→b.data.toList=wd→c.2.data.toList∈stops→Qat L wd us=some (.all,adv us):=by
  intro wd us K a b c hu hb hc;have hg:=hu.get.2.2.2.1.get.2.1;unfold Qat;rw[QbO hu hb];simp only;rw[if_neg (by rw[hg];exact QbU hc (by decide)),if_neg (by rw[hg];exact QbU hc (by decide)),if_neg (by rw[hg];exact QbU hc (by decide))]
 have n4:=n3 [112,114,105,110,99,105,112,97,108] _ _ _ _ _ k3 rfl (by decide);have n5:QaI L (adv (adv (adv (adv ts))))=some (.all,adv (adv (adv (adv (adv ts))))):=by
  have hg:=k5.get.2.2.2.1.get.2.1;unfold QaI;rw[QbO k5 rfl];simp only;rw[if_neg (by rw[hg];decide),if_neg (by rw[hg];decide)]
 have n6:=n3 [114,101,115,111,117,114,99,101] _ _ _ _ _ k7 rfl (by decide);have n7:Qds (adv (adv (adv (adv (adv (adv (adv ts)))))))=adv (adv (adv (adv (adv (adv (adv ts)))))):=by
  unfold Qds;rw[if_neg (by rw[k8.get.2.1];decide)]
 have n8:cond E (adv (adv (adv (adv (adv (adv (adv (adv (adv ts)))))))))=some (x,adv vs):=by
  unfold cond;rw[QbO k10 rfl];simp only;rw[e1];simp only;rw[QbO k12 rfl]
 have n9:conds E (adv (adv (adv (adv (adv (adv (adv (adv ts))))))))=some ([(true,x)],adv vs):=by
  unfold conds;have hl:=k9.len;obtain⟨g,hg⟩:∃g,(adv (adv (adv (adv (adv (adv (adv (adv ts)))))))).length=g+1:=⟨_,hl⟩
  rw[Qbh,if_pos (by rw[k9.get.2.1];decide),n8];simp only;rw[hg,Qbh,if_neg (by rw[k13.get.2.1];decide),if_neg (by rw[k13.get.2.1];decide)];rfl
 refine⟨⟨true,[],.all,.all,.all,[(true,x)],(hd ts).fn,(hd ts).off,(hd ts).ln,(hd ts).col⟩,adv (adv vs),?_,rfl⟩;unfold Qa2;rw[n1];simp only[Option.bind_some];rw[n2];simp only[Option.bind_some];rw[QbO k2 rfl];simp only[Option.bind_some];rw[n4];simp only[Option.bind_some];rw[QbO k4 rfl];simp only[Option.bind_some];rw[n5];simp only[Option.bind_some];rw[QbO k6 rfl];simp only[Option.bind_some];rw[n6];simp only[Option.bind_some]
 rw[n7,QbO k8 rfl];simp only[Option.bind_some];rw[n9];simp only[Option.bind_some];rw[QbO k13 rfl];simp only[Option.bind_some]
theorem Qcq{w:World}{B B':Nat}{e:TypeId}{size:Nat}{v:Value}{n:Nat}{xs:List Value}(h:w.ownsRow B e size v n xs)(hb:B'≤B):w.ownsRow B' e size v n xs:=by
 obtain⟨h1,h2⟩:=h;refine⟨h1,?_⟩;rcases h2 with h2 | ⟨g,cap,cur,a,b,c⟩
 ·exact .inl h2
 ·exact .inr ⟨g,cap,cur,a,by omega,c⟩
theorem Qcf{P:Program}(w:World)(base:Nat)(t ty e:TypeId)(i:TypeInfo)(z:Value)(size bytes:Nat)(ht:P.underlying t=some (.slice e))(hi:P.info? e=some i)(hz:i.zero=some z)
  (hsize:i.size=size)(hby:i.bytes=bytes)(hzs:z.cells.size=size)(hsz:0<size)(v:Value)(n:Nat)(xs:List Value)(hown:w.ownsRow base e size v n xs)
  (a:Addr)(m c:Nat)(news:List Value)(hl:news.length=m*size)(hnews:∀j u,news[j]? =some u→w.cell? (a.add j)=some u)(h1:∀u∈news,u.oneCell'=true)
  (h63:n+m≤maxLen)(hbytes:(n+m)*bytes≤140737488355328)(hbase:base≤w.heap.size) :
  ∃v' w',(Builtin.append_ #[t,t] ty #[v,.slice (some a) m c]).run P w=.ok v' w'∧w'.ownsRow base e size v' (n+m) (xs++news)∧w.grownBy w' v.ownBlock∧(v'=.slice none 0 0↔v=.slice none 0 0∧m=0)∧(v'.ownBlock=v.ownBlock∨∀k,v'.ownBlock=some k→w.heap.size≤k):=by
 obtain⟨v',w',hr,h2,h3,h4⟩:=run_append_own (P:=P) w base t ty e i z size bytes ht hi hz hsize hby hzs hsz v n xs hown a m c news hl hnews h1 h63 hbytes hbase;refine⟨v',w',hr,h2,h3,h4,?_⟩;rcases hown.2 with⟨rfl,rfl⟩ | ⟨g,cap,cur,rfl,hbg,hg,hnc,hcm,hcs,htake⟩
 ·have hx:xs=[]:=List.eq_nil_of_length_eq_zero (by simpa using hown.1)
  subst hx;obtain⟨v2,w2,hr2,k2,k3,k4⟩:=run_append_own (P:=P) w w.heap.size t ty e i z size bytes ht hi hz hsize hby hzs hsz (.slice none 0 0) 0 [] ⟨by simp,.inl ⟨rfl,rfl⟩⟩ a m c news hl hnews h1 h63 hbytes (Nat.le_refl _);rw[hr]at hr2;cases hr2;rcases k2.2 with⟨rfl,_⟩ | ⟨g,cap,cur,rfl,hbg,_⟩
  ·exact .inl rfl
  ·exact .inr (fun k hk=>by cases hk;exact hbg)
 ·by_cases hroom:n+m≤cap
  ·obtain⟨w2,hr2,_⟩:=run_append_own_spare (P:=P) w base t ty e i size ht hi hsize g n cap xs hown a m c news hl hnews h1 hroom
   rw[hr]at hr2;cases hr2;exact .inl rfl
  ·subst hsize
   subst hby
   have holds:∀j u,xs[j]? =some u→w.cell? ((⟨g,0,none⟩:Addr).add j)=some u:=hown.cells (g:=g) rfl
   have hr2:=run_append_grow (P:=P) w t ty e i z ht hi hz ⟨g,0,none⟩ n cap xs hown.1 holds a m c news hl hnews (by omega) (by simp only[maxLen]at h63;omega) (growslice_fits (by omega) hbytes);rw[hr]at hr2;cases hr2;exact .inr (fun k hk=>by cases hk;exact Nat.le_refl _)
theorem appF{P:Program}{ops:Array Oper}{rest:List Oper}{o:Oper}{a:Act}{w:World}{Q:Exit→Act→World→Prop}{T E:TypeId}{z:Value}{sz by':Nat}(hT:SlT P T E z sz by')
  (hgd:o.guard=none)(s xo:Operand)(ho:o.op=.call {callee:=.builtin .append,args:=#[s,xo],argTypes:=#[T,T]})(base:Nat)(v:Value)(n:Nat)(xs:List Value)(hs:a.eval s=v)(hown:w.ownsRow base E sz v n xs)
  (blk:Nat)(news:List Value)(hl:news.length=1*sz)(hx:a.eval xo=.slice (some ⟨blk,0,none⟩) 1 1)(hc:∀j u,news[j]? =some u→w.cell? ⟨blk,j,none⟩=some u)(h1:∀v∈news,v.oneCell'=true)(hm:n+1≤maxLen)(hn:(n+1)*by'≤140737488355328)(hbase:base≤w.heap.size)
  (h:∀v' w',w'.ownsRow base E sz v' (n+1) (xs++news)→w.grownBy w' v.ownBlock→(v'.ownBlock=v.ownBlock∨∀k,v'.ownBlock=some k→w.heap.size≤k)→wpList P ops Q rest (a.put o.dst v') w'):wpList P ops Q (o::rest) a w:=by
 obtain⟨i0,hi,hz0,hz1,hz2⟩:=hT.i;obtain⟨v',w',hr,h2,h3,_,h5⟩:=Qcf (P:=P) w base T o.type E i0 z sz by' hT.hu hi hz0 hz1 hz2 hT.zs hT.pos v n xs hown ⟨blk,0,none⟩ 1 1 news hl (by
  intro j u hj;have:=hc j u hj;by_cases h0:j=0
  ·subst h0;simpa [Addr.add]using this
  ·simpa [Addr.add,h0]using this) h1 hm hn hbase
 refine wpList_plain hgd fun _ hK=>?_
 unfold Oper.wp execOp;simp only[ho,resolve,invoke,builtin,Sem.run_bind,Sem.run_pure,Result.andThen_ok,List.map_toArray,List.map_cons,List.map_nil,hs,hx,hr];exact hK _ _ (h v' w' h2 h3 h5)
structure PV where
 kind:Int
 n:Int
 s:ByteArray
 t:ByteArray
abbrev pv0:PV:=⟨0,0,⟨#[]⟩,⟨#[]⟩⟩
inductive PEx where
 | mk (op:Int)(s:ByteArray)(v:PV)(keys pieces:List ByteArray)(l:List PEx)
def RwU(w:World)(U:Nat→Prop)(tag z:Nat)(p:Option Addr)(n:Nat)(cs:List Value):Prop :=
 cs.length=n*z∧(n=0∨∃b off c fr,p=some ⟨b,off,none⟩∧U b∧w.heap[b]? =some (.cells c tag fr)∧∀j,j<n*z→c[off+j]? =cs[j]?)
theorem RwU.nil{w:World}{U:Nat→Prop}{tag z:Nat}{p:Option Addr}:RwU w U tag z p 0 []:=⟨by simp,.inl rfl⟩
theorem RwU.ext{w w':World}{U U' S:Nat→Prop}{tag z:Nat}{p:Option Addr}{n:Nat}{cs:List Value}(h:RwU w U tag z p n cs)(he:Ext S w w')(hs:∀d,U d→d<w.heap.size→¬S d∧U' d):RwU w' U' tag z p n cs:=by
 obtain⟨h1,h2 | ⟨b,off,c,fr,a1,a2,a3,a4⟩⟩:=h
 ·exact⟨h1,.inl h2⟩
 ·exact⟨h1,.inr ⟨b,off,c,fr,a1,(hs b a2 (Qad a3)).2,he.heap (hs b a2 (Qad a3)).1 a3,a4⟩⟩
inductive PxIs(w:World)(U:Nat→Prop):List Value→PEx→Prop
 | mk (op:Int)(s:ByteArray)(v:PV)(keys pieces:List ByteArray)(l:List PEx)(pk pp pl:Option Addr)(ck cp cl:Nat)(cs:List Value)
  (hk:RwU w U 9 1 pk keys.length (keys.map .string))(hp:RwU w U 9 1 pp pieces.length (pieces.map .string))(hl:RwU w U 33 11 pl l.length cs)
  (h:∀i a,l[i]? =some a→PxIs w U ((cs.drop (i*11)).take 11) a) :
  PxIs w U [.int .i64 op,.string s,.int .i64 v.kind,.int .i64 v.n,.string v.s,.string v.t,.slice none 0 0,.slice none 0 0,.slice pk keys.length ck,.slice pp pieces.length cp,.slice pl l.length cl] (.mk op s v keys pieces l)
theorem PxIs.ext{w w':World}{U U' S:Nat→Prop}{cs:List Value}{x:PEx}(h:PxIs w U cs x)(he:Ext S w w')(hs:∀d,U d→d<w.heap.size→¬S d∧U' d):PxIs w' U' cs x:=by
 induction h with
 | mk op s v keys pieces l pk pp pl ck cp cl cs hk hp hl _ ih=>exact .mk op s v keys pieces l pk pp pl ck cp cl cs (hk.ext he hs) (hp.ext he hs) (hl.ext he hs) ih
theorem PxIs.len{w:World}{U:Nat→Prop}{cs:List Value}{x:PEx}(h:PxIs w U cs x):cs.length=11:=by cases h;rfl
theorem PxIs.after{w w':World}{U:Nat→Prop}{cs:List Value}{x:PEx}(h:PxIs w U cs x)(hb:Below w.heap.size w w'):PxIs w' U cs x:=h.ext (S:=fun _=>False) (.below hb) (fun d hd _=>⟨fun h=>h,hd⟩)
def PxsIs(w:World)(U:Nat→Prop)(cs:List Value)(l:List PEx):Prop:=cs.length=l.length*11∧∀i a,l[i]? =some a→PxIs w U ((cs.drop (i*11)).take 11) a
theorem PxsIs.ext{w w':World}{U U' S:Nat→Prop}{cs:List Value}{l:List PEx}(h:PxsIs w U cs l)(he:Ext S w w')(hs:∀d,U d→d<w.heap.size→¬S d∧U' d):PxsIs w' U' cs l:=⟨h.1,fun i a hi=>(h.2 i a hi).ext he hs⟩
theorem PxsIs.after{w w':World}{U:Nat→Prop}{cs:List Value}{l:List PEx}(h:PxsIs w U cs l)(hb:Below w.heap.size w w'):PxsIs w' U cs l:=⟨h.1,fun i a hi=>(h.2 i a hi).after hb⟩
theorem PxsIs.nil{w:World}{U:Nat→Prop}:PxsIs w U [] []:=⟨rfl,fun i a h=>by simp at h⟩
theorem PxsIs.snoc{w:World}{U:Nat→Prop}{cs ds:List Value}{l:List PEx}{x:PEx}(h:PxsIs w U cs l)(hx:PxIs w U ds x):PxsIs w U (cs++ds) (l++[x]):=by
 have h11:=hx.len;refine⟨by simp[h.1,h11,Nat.add_mul],fun i a hi=>?_⟩;have hc:=h.1;by_cases hl:i<l.length
 ·rw[List.getElem?_append_left hl]at hi
  have:=h.2 i a hi
  rwa [List.drop_append_of_le_length (by omega),List.take_append_of_le_length (by rw[List.length_drop];omega)]
 ·rw[List.getElem?_append_right (by omega)]at hi
  have h0:i=l.length:=by
   have:=(List.getElem?_eq_some_iff.1 hi).1;simp at this;omega
  subst h0;simp at hi;subst hi;rw[List.drop_append,List.drop_eq_nil_of_le (by omega),hc,Nat.sub_self,List.drop_zero,List.nil_append,List.take_of_length_le (by omega)];exact hx
def PxP(w:World)(x:PEx)(e:Ending)(w':World):Prop:=Below w.heap.size w w'∧∃cs,PxIs w' (w.heap.size≤·) cs x∧e=.returned (.tuple #[.agg cs.toArray,.bool true])
theorem sl31:SlT Tryz.prog 31 33 (.agg #[.int .i64 0,.string ⟨#[]⟩,.int .i64 0,.int .i64 0,.string ⟨#[]⟩,.string ⟨#[]⟩,.slice none 0 0,.slice none 0 0,.slice none 0 0,.slice none 0 0,.slice none 0 0]) 11 192:=⟨by kernel_rfl,⟨Tryz.t33,by kernel_rfl,by kernel_rfl,by kernel_rfl,by kernel_rfl⟩,rfl,by decide⟩
theorem sl27:SlT Tryz.prog 27 9 (.string ⟨#[]⟩) 1 16:=⟨by kernel_rfl,⟨Tryz.t9,by kernel_rfl,by kernel_rfl,by kernel_rfl,by kernel_rfl⟩,rfl,by decide⟩
theorem RwU.own{w:World}{B:Nat}{e:TypeId}{z:Nat}{v:Value}{n:Nat}{xs:List Value}(h:w.ownsRow B e z v n xs):∃p c,v=.slice p n c∧RwU w (B≤·) e z p n xs:=by
 obtain⟨h1,h2⟩:=h;rcases h2 with⟨rfl,rfl⟩ | ⟨g,cap,cur,rfl,hB,hg,_,_,_,ht⟩
 ·exact⟨none,0,rfl,h1,.inl rfl⟩
 ·refine⟨_,cap,rfl,h1,.inr ⟨g,0,cur,_,rfl,hB,hg,fun j hj=>?_⟩⟩
  rw[←ht,List.getElem?_take_of_lt hj];simp
end Go.Proofs.Pg
namespace Go.Proofs.Pg
open Go.RowKit
attribute [local go_sem] Oper.semAt_some
def PxC(x:Ex)(y:PEx):Prop:=∀w lo v,NodeIs w lo v x→Calls Tryz.prog 51 #[v] w (PxP w y)
abbrev xCells(op:Int)(s:ByteArray)(kd nn:Int)(vs vt:ByteArray)(k p l:Value):Array Value:=#[.int .i64 op,.string s,.int .i64 kd,.int .i64 nn,.string vs,.string vt,.slice none 0 0,.slice none 0 0,k,p,l]
abbrev xZero:Array Value:=xCells 0 ⟨#[]⟩ 0 0 ⟨#[]⟩ ⟨#[]⟩ (.slice none 0 0) (.slice none 0 0) (.slice none 0 0)
def MnRel(w0:World)(op:Int)(s:ByteArray)(ys:List PEx)(sl:Value)(wr:World):Prop :=
 ∃i v cs,sl=.int .i64 ((i:Nat):Int)∧i≤ys.length∧wr.heap[w0.heap.size]? =some (.cells xZero 33 (0,0))∧wr.heap[w0.heap.size+1]? =some (.cells (xCells op s 0 0 ⟨#[]⟩ ⟨#[]⟩ (.slice none 0 0) (.slice none 0 0) v) 33 (0,0)) ∧
  wr.ownsRow (w0.heap.size+2) 33 11 v i cs∧PxsIs wr (fun d=>w0.heap.size+2≤d∧v.ownBlock≠some d) cs (ys.take i)∧Below w0.heap.size w0 wr∧w0.heap.size+2≤wr.heap.size
theorem load11{P:Program}{t:TypeId}(b o:Nat)(w:World)(v0 v1 v2 v3 v4 v5 v6 v7 v8 v9 v10:Value)(ha:(isAgg t).run P w=.ok true w)(hs:(sizeOf t).run P w=.ok 11 w)(h0:w.cell? ⟨b,o,none⟩=some v0)(h1:w.cell? ⟨b,o+1,none⟩=some v1)
  (h2:w.cell? ⟨b,o+2,none⟩=some v2)(h3:w.cell? ⟨b,o+3,none⟩=some v3)(h4:w.cell? ⟨b,o+4,none⟩=some v4)(h5:w.cell? ⟨b,o+5,none⟩=some v5)(h6:w.cell? ⟨b,o+6,none⟩=some v6)(h7:w.cell? ⟨b,o+7,none⟩=some v7)(h8:w.cell? ⟨b,o+8,none⟩=some v8)(h9:w.cell? ⟨b,o+9,none⟩=some v9)(h10:w.cell? ⟨b,o+10,none⟩=some v10) :
  (loadVar t ⟨b,o,none⟩).run P w=.ok (.agg #[v0,v1,v2,v3,v4,v5,v6,v7,v8,v9,v10]) w:=by
 simp only[loadVar,Sem.run_bind,ha,hs,Result.andThen_ok,Sem.run_pure,if_true];simp[loadCells,go_sem,h0,h1,h2,h3,h4,h5,h6,h7,h8,h9,h10]
theorem set11{w:World}{b:Nat}{c:Array Value}{e:TypeId}(h:w.heap[b]? =some (.cells c e (0,0)))(hc:c.size=11)(v0 v1 v2 v3 v4 v5 v6 v7 v8 v9 v10:Value) :
  (((((((((((w.setCell ⟨b,0,none⟩ v0).setCell ⟨b,1,none⟩ v1).setCell ⟨b,2,none⟩ v2).setCell ⟨b,3,none⟩ v3).setCell ⟨b,4,none⟩ v4).setCell ⟨b,5,none⟩ v5).setCell ⟨b,6,none⟩ v6).setCell ⟨b,7,none⟩ v7).setCell ⟨b,8,none⟩ v8).setCell ⟨b,9,none⟩ v9).setCell ⟨b,10,none⟩ v10).heap[b]? =some (.cells #[v0,v1,v2,v3,v4,v5,v6,v7,v8,v9,v10] e (0,0)):=by
 obtain⟨l⟩:=c
 match l,hc with
 | [a0,a1,a2,a3,a4,a5,a6,a7,a8,a9,a10],_ =>
  have s0:(w.setCell ⟨b,0,none⟩ v0).heap[b]? =some (.cells #[v0,a1,a2,a3,a4,a5,a6,a7,a8,a9,a10] e (0,0)):=Qac (o:=0) h v0;have s1:((w.setCell ⟨b,0,none⟩ v0).setCell ⟨b,1,none⟩ v1).heap[b]? =some (.cells #[v0,v1,a2,a3,a4,a5,a6,a7,a8,a9,a10] e (0,0)):=Qac (o:=1) s0 v1;have s2:(((w.setCell ⟨b,0,none⟩ v0).setCell ⟨b,1,none⟩ v1).setCell ⟨b,2,none⟩ v2).heap[b]? =some (.cells #[v0,v1,v2,a3,a4,a5,a6,a7,a8,a9,a10] e (0,0)):=Qac (o:=2) s1 v2
  have s3:((((w.setCell ⟨b,0,none⟩ v0).setCell ⟨b,1,none⟩ v1).setCell ⟨b,2,none⟩ v2).setCell ⟨b,3,none⟩ v3).heap[b]? =some (.cells #[v0,v1,v2,v3,a4,a5,a6,a7,a8,a9,a10] e (0,0)):=Qac (o:=3) s2 v3;have s4:(((((w.setCell ⟨b,0,none⟩ v0).setCell ⟨b,1,none⟩ v1).setCell ⟨b,2,none⟩ v2).setCell ⟨b,3,none⟩ v3).setCell ⟨b,4,none⟩ v4).heap[b]? =some (.cells #[v0,v1,v2,v3,v4,a5,a6,a7,a8,a9,a10] e (0,0)):=Qac (o:=4) s3 v4
  have s5:((((((w.setCell ⟨b,0,none⟩ v0).setCell ⟨b,1,none⟩ v1).setCell ⟨b,2,none⟩ v2).setCell ⟨b,3,none⟩ v3).setCell ⟨b,4,none⟩ v4).setCell ⟨b,5,none⟩ v5).heap[b]? =some (.cells #[v0,v1,v2,v3,v4,v5,a6,a7,a8,a9,a10] e (0,0)):=Qac (o:=5) s4 v5;have s6:(((((((w.setCell ⟨b,0,none⟩ v0).setCell ⟨b,1,none⟩ v1).setCell ⟨b,2,none⟩ v2).setCell ⟨b,3,none⟩ v3).setCell ⟨b,4,none⟩ v4).setCell ⟨b,5,none⟩ v5).setCell ⟨b,6,none⟩ v6).heap[b]? =some (.cells #[v0,v1,v2,v3,v4,v5,v6,a7,a8,a9,a10] e (0,0)):=Qac (o:=6) s5 v6
  have s7:((((((((w.setCell ⟨b,0,none⟩ v0).setCell ⟨b,1,none⟩ v1).setCell ⟨b,2,none⟩ v2).setCell ⟨b,3,none⟩ v3).setCell ⟨b,4,none⟩ v4).setCell ⟨b,5,none⟩ v5).setCell ⟨b,6,none⟩ v6).setCell ⟨b,7,none⟩ v7).heap[b]? =some (.cells #[v0,v1,v2,v3,v4,v5,v6,v7,a8,a9,a10] e (0,0)):=Qac (o:=7) s6 v7;have s8:(((((((((w.setCell ⟨b,0,none⟩ v0).setCell ⟨b,1,none⟩ v1).setCell ⟨b,2,none⟩ v2).setCell ⟨b,3,none⟩ v3).setCell ⟨b,4,none⟩ v4).setCell ⟨b,5,none⟩ v5).setCell ⟨b,6,none⟩ v6).setCell ⟨b,7,none⟩ v7).setCell ⟨b,8,none⟩ v8).heap[b]? =some (.cells #[v0,v1,v2,v3,v4,v5,v6,v7,v8,a9,a10] e (0,0)):=Qac (o:=8) s7 v8
  have s9:((((((((((w.setCell ⟨b,0,none⟩ v0).setCell ⟨b,1,none⟩ v1).setCell ⟨b,2,none⟩ v2).setCell ⟨b,3,none⟩ v3).setCell ⟨b,4,none⟩ v4).setCell ⟨b,5,none⟩ v5).setCell ⟨b,6,none⟩ v6).setCell ⟨b,7,none⟩ v7).setCell ⟨b,8,none⟩ v8).setCell ⟨b,9,none⟩ v9).heap[b]? =some (.cells #[v0,v1,v2,v3,v4,v5,v6,v7,v8,v9,a10] e (0,0)):=Qac (o:=9) s8 v9;have s10:(((((((((((w.setCell ⟨b,0,none⟩ v0).setCell ⟨b,1,none⟩ v1).setCell ⟨b,2,none⟩ v2).setCell ⟨b,3,none⟩ v3).setCell ⟨b,4,none⟩ v4).setCell ⟨b,5,none⟩ v5).setCell ⟨b,6,none⟩ v6).setCell ⟨b,7,none⟩ v7).setCell ⟨b,8,none⟩ v8).setCell ⟨b,9,none⟩ v9).setCell ⟨b,10,none⟩ v10).heap[b]? =some (.cells #[v0,v1,v2,v3,v4,v5,v6,v7,v8,v9,v10] e (0,0)):=Qac (o:=10) s9 v10
  exact s10
theorem ext11{w:World}{b:Nat}(v0 v1 v2 v3 v4 v5 v6 v7 v8 v9 v10:Value):Ext (·=b) w (((((((((((w.setCell ⟨b,0,none⟩ v0).setCell ⟨b,1,none⟩ v1).setCell ⟨b,2,none⟩ v2).setCell ⟨b,3,none⟩ v3).setCell ⟨b,4,none⟩ v4).setCell ⟨b,5,none⟩ v5).setCell ⟨b,6,none⟩ v6).setCell ⟨b,7,none⟩ v7).setCell ⟨b,8,none⟩ v8).setCell ⟨b,9,none⟩ v9).setCell ⟨b,10,none⟩ v10) :=
 (((((((((((Ext.refl (·=b) w).set (p:=⟨b,0,none⟩) (.inl rfl) v0).set (p:=⟨b,1,none⟩) (.inl rfl) v1).set (p:=⟨b,2,none⟩) (.inl rfl) v2).set (p:=⟨b,3,none⟩) (.inl rfl) v3).set (p:=⟨b,4,none⟩) (.inl rfl) v4).set (p:=⟨b,5,none⟩) (.inl rfl) v5).set (p:=⟨b,6,none⟩) (.inl rfl) v6).set (p:=⟨b,7,none⟩) (.inl rfl) v7).set (p:=⟨b,8,none⟩) (.inl rfl) v8).set (p:=⟨b,9,none⟩) (.inl rfl) v9).set (p:=⟨b,10,none⟩) (.inl rfl) v10
theorem Qch{w:World}{b:Nat}{c:Array Value}{e:TypeId}(h:w.heap[b]? =some (.cells c e (0,0)))(hc:c.size=11)(v0 v1 v2 v3 v4 v5 v6 v7 v8 v9 v10:Value) :
  ∃w',(((((((((((w.setCell ⟨b,0,none⟩ v0).setCell ⟨b,1,none⟩ v1).setCell ⟨b,2,none⟩ v2).setCell ⟨b,3,none⟩ v3).setCell ⟨b,4,none⟩ v4).setCell ⟨b,5,none⟩ v5).setCell ⟨b,6,none⟩ v6).setCell ⟨b,7,none⟩ v7).setCell ⟨b,8,none⟩ v8).setCell ⟨b,9,none⟩ v9).setCell ⟨b,10,none⟩ v10)=w'∧w'.heap[b]? =some (.cells #[v0,v1,v2,v3,v4,v5,v6,v7,v8,v9,v10] e (0,0))∧Ext (·=b) w w':=⟨_,rfl,set11 h hc v0 v1 v2 v3 v4 v5 v6 v7 v8 v9 v10,ext11 v0 v1 v2 v3 v4 v5 v6 v7 v8 v9 v10⟩
theorem Qbp{W:World}{fn:Func}{R:Nat}{cs:Array Value}{ok:Value}{Q:Ending→World→Prop}(a:Act)(s s2:Nat)(hf:fn.results=#[.cell s 33,.tmp s2])(ha:a.tmps.getD s undef=.pointer (some ⟨R,0,none⟩))(he:a.tmps.getD s2 undef=ok)(had:a.defers=[])
  (r:W.heap[R]? =some (.cells cs 33 (0,0)))(hz:cs.size=11)(h:Q (.returned (.tuple #[.agg cs,ok])) W):bodyPost Tryz.prog fn Q Exit.ret a W:=by
 obtain⟨v0,v1,v2,v3,v4,v5,v6,v7,v8,v9,v10,rfl⟩:∃v0 v1 v2 v3 v4 v5 v6 v7 v8 v9 v10,cs=#[v0,v1,v2,v3,v4,v5,v6,v7,v8,v9,v10]:=by
  obtain⟨l⟩:=cs
  match l,hz with
  | [v0,v1,v2,v3,v4,v5,v6,v7,v8,v9,v10],_=>exact⟨v0,v1,v2,v3,v4,v5,v6,v7,v8,v9,v10,rfl⟩
 refine bodyPost_ret (QaH (a:=s) (t:=33) hf _ ⟨R,0,none⟩ ha _ _ (load11 _ _ _ _ _ _ _ _ _ _ _ _ _ _ (by kernel_rfl) (by kernel_rfl) (Qaa (o:=0) r rfl) (Qaa (o:=1) r rfl) (Qaa (o:=2) r rfl) (Qaa (o:=3) r rfl) (Qaa (o:=4) r rfl) (Qaa (o:=5) r rfl) (Qaa (o:=6) r rfl) (Qaa (o:=7) r rfl) (Qaa (o:=8) r rfl) (Qaa (o:=9) r rfl) (Qaa (o:=10) r rfl))) had ?_;rw[he];exact h
theorem Qh4{w:World}{U:Nat→Prop}{cs:List Value}{x:PEx}(h:PxIs w U cs x):∀v∈cs,v.oneCell'=true:=by
 cases h;intro v hv;simp only[List.mem_cons,List.not_mem_nil,or_false]at hv;rcases hv with rfl | rfl | rfl | rfl | rfl | rfl | rfl | rfl | rfl | rfl | rfl<;>rfl
theorem Qf8{w:World}{base:Nat}{e:TypeId}{size:Nat}{v:Value}{n:Nat}{xs:List Value}(h:w.ownsRow base e size v n xs):∀k,v.ownBlock=some k→k<w.heap.size:=fun k hk=>by
 obtain⟨_,c,hc⟩:=Qa5 h hk;exact Qad hc
theorem Qe6{l:List Ex}{ys:List PEx}(hlen:ys.length=l.length)(hC:∀(i:Nat)(a:Ex)(y:PEx),l[i]? =some a→ys[i]? =some y→PxC a y)(w:World)(op:Int)(s:ByteArray)(lo:Nat)(p:Option Addr)(c:Nat)(vs:Nat→Value)(hr:RowAt w lo 136 p l.length vs)(hn:∀(i:Nat)(a:Ex),l[i]? =some a→NodeIs w lo (vs i) a)(hm:l.length≤1000000) :
  Calls Tryz.prog 65 #[.int .i64 op,.string s,.slice p l.length c] w (PxP w (.mk op s pv0 [] [] ys)):=by
 have HC:=Hi hC;clear hC;have HN:=Hi hn;clear hn;have HRW:=Hi hr;clear hr;have HLEN:=Hi hlen;clear hlen;go_enter Tryz.func65,Tryz.ntmps65
 go_upto_region 3 with(fail)
 obtain⟨w1,hw⟩:∃w1,((w.alloc (.cells xZero 33)).alloc (.cells (xCells op s 0 0 ⟨#[]⟩ ⟨#[]⟩ (.slice none 0 0) (.slice none 0 0) (.slice none 0 0)) 33))=w1:=⟨_,rfl⟩
 rw[hw];have hB1:Below w.heap.size w w1:=by rw[←hw];exact(Qab w _).alloc (by simp) _
 have hr1:w1.heap[w.heap.size]? =some (.cells xZero 33 (0,0)):=by rw[←hw];exact Qaf (Qah (by simp) _) _
 have hx1:w1.heap[w.heap.size+1]? =some (.cells (xCells op s 0 0 ⟨#[]⟩ ⟨#[]⟩ (.slice none 0 0) (.slice none 0 0) (.slice none 0 0)) 33 (0,0)):=by rw[←hw];exact Qah (by simp) _
 have hs1:w.heap.size+2≤w1.heap.size:=by rw[←hw];simp
 clear hw;have HQ:Hid (MnRel w op s ys (.int .i64 0) w1):=Hi ⟨0,.slice none 0 0,[],rfl,Nat.zero_le _,hr1,hx1,⟨rfl,.inl ⟨rfl,rfl⟩⟩,.nil,hB1,hs1⟩;clear hB1 hr1 hx1 hs1
 go_loopw [18] (fun sl wr=>MnRel w op s ys sl wr) (fun sl _=>l.length-(intOf sl).toNat)
 case atStart=>exact HQ.out
 case round =>
  clear HQ;obtain⟨i,v,cs,rfl,hi,hrb,hxb,hO,hP,hB,hs⟩:=hrel;have HP:=Hi hP;clear hP;have HO:=Hi hO;clear hO;have HB:=Hi hB;clear hB;have HRB:=Hi hrb;clear hrb;have hil:i≤l.length:=by have:=HLEN.out;omega
  clear hi;by_cases hlt:i<l.length
  ·obtain⟨a,ha⟩:∃a,l[i]? =some a:=⟨l[i],by simp[hlt]⟩
   obtain⟨y,hy⟩:∃y,ys[i]? =some y:=⟨ys[i]'(by have:=HLEN.out;omega),by simp[hlt,HLEN.out]⟩
   have hnd:=HN.out i a ha;obtain⟨T,x,hvi⟩:=hnd.iface;rw[hvi]at hnd;obtain⟨b,off,cc,fr,rfl,hlb,hcb,hcc⟩:∃b off cc fr,p=some ⟨b,off,none⟩∧lo≤b∧w.heap[b]? =some (.cells cc 136 fr)∧∀i,i<l.length→cc[off+i]? =some (vs i):=HRW.out.resolve_left (by omega)
   have hci:=Qaa ((HB.out.block b (Qad hcb)).trans hcb) ((hcc i hlt).trans (congrArg some hvi));have HA:=Hi (And.intro ha hy);clear ha hy hcb hcc hvi
   go_wp2_with fail
   refine(HC.out i a y HA.out.1 HA.out.2 _ _ _ (hnd.keep (Ext.below (S:=fun _=>False) HB.out) (fun _ h=>h.elim))).mono ?_;rintro e w2⟨B2,ds,hpx,rfl⟩;cases hpx with
   | mk op' s' v' keys' pieces' l' pk pp pl ck cp cl cs' hk hp hl hch =>
   have hpx:PxIs w2 (wr.heap.size≤·) _ (.mk op' s' v' keys' pieces' l'):=.mk op' s' v' keys' pieces' l' pk pp pl ck cp cl cs' hk hp hl hch;obtain⟨kd,nn,vs',vt⟩:=v';simp only at hpx;have HPX:=Hi hpx;clear hpx hk hp hl hch
   go_upto_region 8 with(fail)
   obtain⟨w3,hw⟩:∃w3,w2.alloc (.cells (xCells op' s' kd nn vs' vt (.slice pk keys'.length ck) (.slice pp pieces'.length cp) (.slice pl l'.length cl)) 33)=w3:=⟨_,rfl⟩
   rw[hw];have h3:w3.heap[w2.heap.size]? =some (.cells (xCells op' s' kd nn vs' vt (.slice pk keys'.length ck) (.slice pp pieces'.length cp) (.slice pl l'.length cl)) 33 (0,0)):=by rw[←hw];exact heap_alloc_new _ _
   have B3:Below wr.heap.size wr w3:=by rw[←hw];exact B2.alloc B2.size _
   have hz3:w2.heap.size+1=w3.heap.size:=by rw[←hw];simp
   have hz2:=B2.size;have HPX3:=Hi (HPX.out.after (show Below w2.heap.size w2 w3 by rw[←hw];exact Qab _ _));clear hw;have hx3:=Bk B3 hxb;have c10:=Qaa (o:=10) hx3 rfl;obtain⟨k0,k1,k2,k3,k4,k5,k6,k7,k8,k9,k10⟩:=Cl11 h3 rfl rfl rfl rfl rfl rfl rfl rfl rfl rfl rfl;have B4:Below wr.heap.size wr (w3.alloc (.cells (xCells op' s' kd nn vs' vt (.slice pk keys'.length ck) (.slice pp pieces'.length cp) (.slice pl l'.length cl)) 33)):=B3.alloc (by omega) _
   have hOa:=Qaj (S:=fun _=>False) HO.out (.below B4) (fun _ h=>h.elim);have hPa:=HP.out.after B4;have hpxa:=HPX3.out.after (Qab w3 (.cells (xCells op' s' kd nn vs' vt (.slice pk keys'.length ck) (.slice pp pieces'.length cp) (.slice pl l'.length cl)) 33));have hnew:=heap_alloc_new w3 (.cells (xCells op' s' kd nn vs' vt (.slice pk keys'.length ck) (.slice pp pieces'.length cp) (.slice pl l'.length cl)) 33)
   have hxa:=Bk B4 hxb;have hra:=(B4.block _ (Qad HRB.out)).trans HRB.out;have hBa:=HB.out.trans (B4.mono HB.out.size);have hLT:=Qf8 HO.out;have HAll:=Hi (And.intro hOa (And.intro hPa (And.intro hpxa (And.intro hnew (And.intro hxa (And.intro hra (And.intro hBa hLT)))))));have hLB:=HB.out.size;clear hOa hPa hpxa hnew hxa hra hBa hLT hx3 h3 B3 B4 hxb
   go_wp2_with(at_builtin;refine appF sl31 rfl _ _ rfl (w.heap.size+2) _ _ _ rfl HAll.out.1 _ [.int .i64 op',.string s',.int .i64 kd,.int .i64 nn,.string vs',.string vt,.slice none 0 0,.slice none 0 0,.slice pk keys'.length ck,.slice pp pieces'.length cp,.slice pl l'.length cl] rfl rfl (fun j u hj=>Qaa HAll.out.2.2.2.1 (by simpa using hj)) (Qh4 HPX.out) (by unfold maxLen;omega) (by omega) (by simp;omega) ?_)
   intro v9 w9 hO9 hg9 hwh;obtain⟨p9,c9,rfl,-⟩:=RwU.own hO9;obtain⟨v9,hv9⟩:∃v9,v9=Value.slice p9 (i+1) c9:=⟨_,rfl⟩
   rw[←hv9]at hO9 hwh;obtain⟨hOa,hPa,hpxa,hnew,hxa,hra,hBa,hLT⟩:=HAll.out;replace hwh:v9.ownBlock=v.ownBlock∨∀k,v9.ownBlock=some k→w3.heap.size+1≤k:=hwh.imp id (fun h k hk=>by have:=h k hk;simpa using this)
   have hx9:=QaL hxa hOa hg9 (by omega);have hr9:=QaL hra hOa hg9 (by omega);have hz9:=hg9.size;have hB9:Below w.heap.size w w9:=(Ext.grow (S:=fun _=>False) (.below hBa) hOa hg9 (by omega)).toBelow (fun _ h=>h.elim) (Nat.le_refl _);have hP9:PxsIs w9 (fun d=>w.heap.size+2≤d∧v9.ownBlock≠some d) _ _:=(hPa.ext (U':=fun d=>w.heap.size+2≤d∧v9.ownBlock≠some d) (QaF hg9) (fun d hd hl=>⟨hd.2,hd.1,fun h=>hwh.elim (fun e=>hd.2 (e▸h)) (fun e=>by have:=e d h;simp at hl;omega)⟩)).snoc (hpxa.ext (U':=fun d=>w.heap.size+2≤d∧v9.ownBlock≠some d) (QaF hg9) (fun d hd hl=>⟨fun h=>by have:=hLT d h;omega,by omega,fun h=>hwh.elim (fun e=>by have:=hLT d (e▸h);omega) (fun e=>by have:=e d h;simp at hl;omega)⟩))
   have hfr:w9.frozen? ⟨w.heap.size+1,10,none⟩=false:=Qae hx9 10;have hc9:w9.cell? ⟨w.heap.size+1,10,none⟩=some v:=Qaa hx9 rfl;have hset:=Qac (o:=10) hx9 v9;have hsr:=Qag (o:=10) (d:=w.heap.size+1) hr9 (by omega) v9;have hsO:=Qaj (S:=(·=w.heap.size+1)) hO9 ((Ext.refl (·=w.heap.size+1) w9).set (p:=⟨w.heap.size+1,10,none⟩) (.inl rfl) v9) (fun d hd=>by omega);have hsP:=hP9.ext (S:=(·=w.heap.size+1)) (U':=fun d=>w.heap.size+2≤d∧v9.ownBlock≠some d) ((Ext.refl (·=w.heap.size+1) w9).set (p:=⟨w.heap.size+1,10,none⟩) (.inl rfl) v9) (fun d hd _=>⟨by omega,hd⟩)
   have hsB:=Qby (d:=w.heap.size+1) (o:=10) (v:=v9) hB9 (by omega);subst hv9;have HS:=Hi (And.intro hset (And.intro hsr (And.intro hsO (And.intro hsP hsB))));have hz9':w.heap.size+2≤w9.heap.size:=by simp at hz9;omega
   clear hset hsr hsO hsP hsB hP9 hB9 hr9 hz9 hOa hPa hpxa hnew hxa hra hBa hLT hO9 hg9 hwh
   go_wp2_with fail
   go_roundw
   case rel =>
    have hyt:ys.take (i+1)=ys.take i++[.mk op' s' ⟨kd,nn,vs',vt⟩ keys' pieces' l']:=by rw[List.take_add_one,HA.out.2];rfl
    exact⟨i+1,_,_,by go_num,by have:=HLEN.out;omega,HS.out.2.1,HS.out.1,HS.out.2.2.1,by rw[hyt];exact HS.out.2.2.2.1,HS.out.2.2.2.2,by simp;omega⟩
   case measure=>simp[intOf];omega
  ·obtain rfl:i=l.length:=by omega
   obtain⟨p',c',rfl,hrow⟩:=RwU.own HO.out;have HW:=Hi hrow;clear hrow;have k0:wr.cell? ⟨w.heap.size+1,0,none⟩=some (.int .i64 op):=Qaa hxb rfl;have k1:wr.cell? ⟨w.heap.size+1,1,none⟩=some (.string s):=Qaa hxb rfl;have k2:wr.cell? ⟨w.heap.size+1,2,none⟩=some (.int .i64 0):=Qaa hxb rfl;have k3:wr.cell? ⟨w.heap.size+1,3,none⟩=some (.int .i64 0):=Qaa hxb rfl;have k4:wr.cell? ⟨w.heap.size+1,4,none⟩=some (.string ⟨#[]⟩):=Qaa hxb rfl
   have k5:wr.cell? ⟨w.heap.size+1,5,none⟩=some (.string ⟨#[]⟩):=Qaa hxb rfl;have k6:wr.cell? ⟨w.heap.size+1,6,none⟩=some (.slice none 0 0):=Qaa hxb rfl;have k7:wr.cell? ⟨w.heap.size+1,7,none⟩=some (.slice none 0 0):=Qaa hxb rfl;have k8:wr.cell? ⟨w.heap.size+1,8,none⟩=some (.slice none 0 0):=Qaa hxb rfl;have k9:wr.cell? ⟨w.heap.size+1,9,none⟩=some (.slice none 0 0):=Qaa hxb rfl;have k10:wr.cell? ⟨w.heap.size+1,10,none⟩=some (.slice p' l.length c'):=Qaa hxb rfl
   have f0:wr.frozen? ⟨w.heap.size,0,none⟩=false:=Qae HRB.out 0;have f1:wr.frozen? ⟨w.heap.size,1,none⟩=false:=Qae HRB.out 1;have f2:wr.frozen? ⟨w.heap.size,2,none⟩=false:=Qae HRB.out 2;have f3:wr.frozen? ⟨w.heap.size,3,none⟩=false:=Qae HRB.out 3;have f4:wr.frozen? ⟨w.heap.size,4,none⟩=false:=Qae HRB.out 4;have f5:wr.frozen? ⟨w.heap.size,5,none⟩=false:=Qae HRB.out 5;have f6:wr.frozen? ⟨w.heap.size,6,none⟩=false:=Qae HRB.out 6
   have f7:wr.frozen? ⟨w.heap.size,7,none⟩=false:=Qae HRB.out 7;have f8:wr.frozen? ⟨w.heap.size,8,none⟩=false:=Qae HRB.out 8;have f9:wr.frozen? ⟨w.heap.size,9,none⟩=false:=Qae HRB.out 9;have f10:wr.frozen? ⟨w.heap.size,10,none⟩=false:=Qae HRB.out 10;have e0:wr.cell? ⟨w.heap.size,0,none⟩=some (.int .i64 0):=Qaa HRB.out rfl;have e1:wr.cell? ⟨w.heap.size,1,none⟩=some (.string ⟨#[]⟩):=Qaa HRB.out rfl;have e2:wr.cell? ⟨w.heap.size,2,none⟩=some (.int .i64 0):=Qaa HRB.out rfl
   have e3:wr.cell? ⟨w.heap.size,3,none⟩=some (.int .i64 0):=Qaa HRB.out rfl;have e4:wr.cell? ⟨w.heap.size,4,none⟩=some (.string ⟨#[]⟩):=Qaa HRB.out rfl;have e5:wr.cell? ⟨w.heap.size,5,none⟩=some (.string ⟨#[]⟩):=Qaa HRB.out rfl;have e6:wr.cell? ⟨w.heap.size,6,none⟩=some (.slice none 0 0):=Qaa HRB.out rfl;have e7:wr.cell? ⟨w.heap.size,7,none⟩=some (.slice none 0 0):=Qaa HRB.out rfl;have e8:wr.cell? ⟨w.heap.size,8,none⟩=some (.slice none 0 0):=Qaa HRB.out rfl
   have e9:wr.cell? ⟨w.heap.size,9,none⟩=some (.slice none 0 0):=Qaa HRB.out rfl;have e10:wr.cell? ⟨w.heap.size,10,none⟩=some (.slice none 0 0):=Qaa HRB.out rfl;clear hxb
   go_wp2_with fail
   obtain⟨w9,hw9,h9,hE⟩:=Qch HRB.out rfl (.int .i64 op) (.string s) (.int .i64 0) (.int .i64 0) (.string ⟨#[]⟩) (.string ⟨#[]⟩) (.slice none 0 0) (.slice none 0 0) (.slice none 0 0) (.slice none 0 0) (.slice p' l.length c');rw[hw9];clear hw9;refine Qbp _ 6 7 (by kernel_rfl) rfl rfl rfl h9 rfl ?_;have hyl:=HLEN.out;refine⟨((Ext.below (S:=fun _=>False) HB.out).trans' hE (fun d hd=>by omega)).toBelow (fun _ h=>h.elim) (Nat.le_refl _),_,?_,rfl⟩
   have hP:=HP.out;rw[List.take_of_length_le (by omega)]at hP;have hrow':=HW.out.ext (U':=(w.heap.size≤·)) hE (fun d hd _=>by omega);rw[←hyl]at hrow' ⊢;exact .mk op s pv0 [] [] ys none none p' 0 0 c' cs .nil .nil hrow' (fun i a hi=>(hP.2 i a hi).ext hE (fun d hd _=>by omega))
end Go.Proofs.Pg
