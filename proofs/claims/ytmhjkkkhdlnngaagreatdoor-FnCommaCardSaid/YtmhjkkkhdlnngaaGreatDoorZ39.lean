/- FnComma: a last comma changes nothing; for every world. Part 39. -/
import Derived.Test.YtmhjkkkhdlnngaaGreatDoorZ38
set_option linter.all false
set_option maxRecDepth 100000
set_option maxHeartbeats 40000000
namespace Go.Proofs.Pg
open Go.RowKit
attribute [local go_sem] Oper.semAt_some
def SrcN(w:World)(p:Option Addr)(l:List (ByteArray×ByteArray)):Prop :=
 ∀i u,l[i]? =some u→∃b off c fr,p=some ⟨b,off,none⟩∧w.heap[b]? =some (.cells c 133 fr)∧c[off+i*2]? =some (.string u.1)∧c[off+i*2+1]? =some (.string u.2)
def SrcC(w:World)(base:Nat)(p:Option Addr)(l:List (Bool×Ex)):Prop :=
 ∀i a,l[i]? =some a→∃b off c fr T v,p=some ⟨b,off,none⟩∧w.heap[b]? =some (.cells c 138 fr)∧c[off+i*2]? =some (.bool a.1)∧c[off+i*2+1]? =some (.iface T v)∧NodeIs w base (.iface T v) a.2
theorem srcN{w:World}{B:Nat}{p:Option Addr}{c:Nat}{l:List (ByteArray×ByteArray)}(h:w.ownsRow B 133 2 (.slice p l.length c) l.length (Qav l)):SrcN w p l:=by
 intro i u hu;obtain⟨p',c',he,h1,h2⟩:=RwU.own h;cases he;have hi:i<l.length:=(List.getElem?_eq_some_iff.1 hu).1;obtain⟨b,off,cc,fr,rfl,_,a2,a3⟩:=h2.resolve_left (by omega);have h3:=Qcd l i hi;rw[List.getD_eq_getElem?_getD,hu]at h3;exact⟨b,off,cc,fr,rfl,a2,(a3 _ (by omega)).trans h3.1,(a3 (i*2+1) (by omega)).trans h3.2⟩
theorem srcC{w:World}{base B:Nat}{p:Option Addr}{c:Nat}{cells:List Value}{l:List (Bool×Ex)}(h:w.ownsRow B 138 2 (.slice p l.length c) l.length cells)(hc:CondsIs w base cells l):SrcC w base p l:=by
 intro i u hu;obtain⟨p',c',he,h1,h2⟩:=RwU.own h;cases he;have hi:i<l.length:=(List.getElem?_eq_some_iff.1 hu).1;obtain⟨b,off,cc,fr,rfl,_,a2,a3⟩:=h2.resolve_left (by omega);obtain⟨h3,T,v,h4,h5⟩:=hc.2 i u hu;exact⟨b,off,cc,fr,T,v,rfl,a2,(a3 _ (by omega)).trans h3,(a3 (i*2+1) (by omega)).trans h4,h5⟩
structure OkPol(P:Pol):Prop where
 notes:P.notes.length≤1000000
 conds:P.cs.length≤1000000
 okE:∀c∈P.cs,OkE c.2
 pr:∀l,P.pr=.inSet l→l.length≤1000000
 ac:∀l,P.ac=.inSet l→l.length≤1000000
 re:∀l,P.re=.inSet l→l.length≤1000000
def PolP(w:World)(P:PPol)(e:Ending)(w':World):Prop:=Below w.heap.size w w'∧∃cs,PpIs w' (w.heap.size≤·) cs P∧e=.returned (.tuple #[.agg cs.toArray,.bool true])
theorem policy38{P:Pol}(hok:OkPol P)(w:World)(base B tb:Nat)(TT:TypeId)(h:QhO w base B tb TT P):Calls Tryz.prog 38 #[.pointer (some ⟨tb,0,none⟩)] w (PolP w (Qb1 P)):=by
 obtain⟨pn,cn,prv,acv,rev,pc,cc,cells,hT,hN,hpr,hac,hre,hC,hCs⟩:=h;have HN:=Hi (srcN hN);clear hN;have HC:=Hi (srcC hC hCs);clear hC hCs;obtain⟨pr,hprE⟩:∃x,toSc P.pr=x:=⟨_,rfl⟩
 obtain⟨ac,hacE⟩:∃x,toSc P.ac=x:=⟨_,rfl⟩
 obtain⟨re,hreE⟩:∃x,toSc P.re=x:=⟨_,rfl⟩
 obtain⟨T1,x1,rfl⟩:=hpr.iface;obtain⟨T2,x2,rfl⟩:=hac.iface;obtain⟨T3,x3,rfl⟩:=hre.iface;obtain⟨f,hf⟩:∃x,P.eff=x:=⟨_,rfl⟩
 rw[hf]at hT;have HOK:=Hi hok;clear hok;go_enter Tryz.func38,Tryz.ntmps38
 go_upto_region 1 with(fail)
 refine QaB fun w1 hw1=>?_
 have B1:Below w.heap.size w w1:=by rw[hw1];exact Qab w _
 have hR1:w1.heap[w.heap.size]? =some (.cells pZero 62 (0,0)):=by rw[hw1];exact heap_alloc_new _ _
 have hz1:w1.heap.size=w.heap.size+1:=by rw[hw1];simp
 clear hw1;have hT1:=Bk B1 hT;have hpr1:=hpr.ext (S:=fun _=>False) (.below B1) (fun _ h=>h.elim);have hac1:=hac.ext (S:=fun _=>False) (.below B1) (fun _ h=>h.elim);have hre1:=hre.ext (S:=fun _=>False) (.below B1) (fun _ h=>h.elim);have htl:tb<w.heap.size:=Qad hT;refine QbE (by kernel_rfl) (by kernel_rfl) 22 (by decide) ?hcl ?htl (Ext (fun _=>False)) (ΦP tb w1.heap.size f (.iface T1 x1) (.iface T2 x2) (.iface T3 x3) pr ac re) ((Ext.refl _ _).drew) (fun a b c h k=>h.trans k) (fun j v w5 w6 hE h=>h.kept hE) ?hop ?hlast
 case hcl =>
  intro listed hc hL j hj
  match j,hj with
  | 0,_=>exact hL _ rfl {on:=0,ground:=.phase} (by simp) rfl
  | 1,_=>exact hL _ rfl {on:=1,ground:=.phase} (by simp) rfl
  | 2,_=>exact hL _ rfl {on:=2,ground:=.phase} (by simp) rfl
  | 3,_=>exact hL _ rfl {on:=3,ground:=.phase} (by simp) rfl
  | 4,_=>exact hL _ rfl {on:=4,ground:=.phase} (by simp) rfl
  | 5,_=>exact hL _ rfl {on:=5,ground:=.phase} (by simp) rfl
  | 6,_=>exact hL _ rfl {on:=6,ground:=.phase} (by simp) rfl
  | 7,_=>exact hL _ rfl {on:=7,ground:=.phase} (by simp) rfl
  | 8,_=>exact hL _ rfl {on:=8,ground:=.phase} (by simp) rfl
  | 9,_=>exact hL _ rfl {on:=9,ground:=.phase} (by simp) rfl
  | 10,_=>exact hL _ rfl {on:=10,ground:=.phase} (by simp) rfl
  | 11,_=>exact hL _ rfl {on:=11,ground:=.phase} (by simp) rfl
  | 12,_=>exact hL _ rfl {on:=12,ground:=.phase} (by simp) rfl
  | 13,_=>exact hL _ rfl {on:=13,ground:=.phase} (by simp) rfl
  | 14,_=>exact hL _ rfl {on:=14,ground:=.phase} (by simp) rfl
  | 15,_=>exact hL _ rfl {on:=15,ground:=.phase} (by simp) rfl
  | 16,_=>exact hL _ rfl {on:=16,ground:=.phase} (by simp) rfl
  | 17,_=>exact hL _ rfl {on:=17,ground:=.phase} (by simp) rfl
  | 18,_=>exact hL _ rfl {on:=18,ground:=.phase} (by simp) rfl
  | 19,_=>exact hL _ rfl {on:=19,ground:=.phase} (by simp) rfl
  | 20,_=>exact hL _ rfl {on:=20,ground:=.phase} (by simp) rfl
  | 21,_=>exact hL _ rfl {on:=21,ground:=.phase} (by simp) rfl
  | j+22,hj=>omega
 case htl =>
  intro j o hj ho
  match j,hj,ho with
  | j+23,_,ho=>simp at ho
 case hop =>
  have hHs:∀w6,Ext (fun _=>False) w1 w6→w6.heap[tb]? =some (.cells #[.bool f,.slice pn P.notes.length cn,.iface T1 x1,.iface T2 x2,.iface T3 x3,.slice pc P.cs.length cc,.string P.fn,.int .i64 P.off,.int .i64 P.ln,.int .i64 P.col] TT (0,0)):=fun w6 hE=>hE.heap id hT1
  have scCall:∀(s:Scp)(sc:PSc)(T:TypeId)(x:Value),toSc s=sc→(∀l,s=.inSet l→l.length≤1000000)→ScIs w1 base allV (.iface T x) s→∀w6,Ext (fun _=>False) w1 w6→Calls Tryz.prog 50 #[.iface T x] w6 (fun e w'=>∃v,e=.returned v∧(∃cs,v=.agg cs.toArray∧ScsIs w' (w1.heap.size≤·) cs sc)∧Ext (fun _=>False) w6 w'):=by
   intro s sc T x hs hl h1 w6 hE;refine(scope_c hl (h1.ext hE (fun _ h=>h.elim))).mono ?_;rintro e w'⟨hb,cs,hcs,rfl⟩;rw[hs]at hcs;have hsz:=hE.size;exact⟨_,rfl,⟨cs,rfl,hcs.ext (S:=fun _=>False) (.refl _ _) (fun d hd _=>⟨id,by omega⟩)⟩,.below hb⟩
  intro j o hj hi
  match j,hi,hj with
  | 0,hi,_ =>
   obtain rfl:=Option.some.inj hi;intro a1 w6 hE hoth hpre;exact Qb5 (.tmp 0) rfl _ (hoth 0 (by decide)) ⟨.refl _ _,_,rfl,rfl⟩
  | 1,hi,_ =>
   obtain rfl:=Option.some.inj hi;intro a1 w6 hE hoth hpre;exact QbL (.tmp 11) rfl _ (hpre {on:=0,ground:=.data} (by simp) rfl _ rfl) ⟨.refl _ _,_,rfl,rfl⟩
  | 2,hi,_ =>
   obtain rfl:=Option.some.inj hi;intro a1 w6 hE hoth hpre;exact Qaw 128 (.tmp 12) 0 rfl _ (hpre {on:=1,ground:=.data} (by simp) rfl _ rfl) _ (Qgo w6 _) ⟨.refl _ _,_,rfl,rfl⟩
  | 3,hi,_ =>
   obtain rfl:=Option.some.inj hi;intro a1 w6 hE hoth hpre;exact QaO 90 (.tmp 13) rfl _ (hpre {on:=2,ground:=.data} (by simp) rfl _ rfl) _ (ld90 w6 _ _ _ (Qaa (hHs w6 hE) rfl)) ⟨.refl _ _,_,rfl,rfl⟩
  | 4,hi,_ =>
   obtain rfl:=Option.some.inj hi;intro a1 w6 hE hoth hpre;exact QcI .eql 90 90 (.tmp 14) (.const (.bool false)) rfl _ _ (hpre {on:=3,ground:=.data} (by simp) rfl _ rfl) rfl _ (eql90 w6 f) ⟨.refl _ _,_,rfl,rfl⟩
  | 5,hi,_ =>
   obtain rfl:=Option.some.inj hi;intro a1 w6 hE hoth hpre;exact Qb5 (.tmp 0) rfl _ (hoth 0 (by decide)) ⟨.refl _ _,_,rfl,rfl⟩
  | 6,hi,_ =>
   obtain rfl:=Option.some.inj hi;intro a1 w6 hE hoth hpre;exact QbL (.tmp 16) rfl _ (hpre {on:=5,ground:=.data} (by simp) rfl _ rfl) ⟨.refl _ _,_,rfl,rfl⟩
  | 7,hi,_ =>
   obtain rfl:=Option.some.inj hi;intro a1 w6 hE hoth hpre;exact Qaw 128 (.tmp 17) 2 rfl _ (hpre {on:=6,ground:=.data} (by simp) rfl _ rfl) _ (Qgp w6 _) ⟨.refl _ _,_,rfl,rfl⟩
  | 8,hi,_ =>
   obtain rfl:=Option.some.inj hi;intro a1 w6 hE hoth hpre;exact QaO 93 (.tmp 18) rfl _ (hpre {on:=7,ground:=.data} (by simp) rfl _ rfl) _ (ld93 w6 _ _ _ _ (Qaa (hHs w6 hE) rfl)) ⟨.refl _ _,_,rfl,rfl⟩
  | 9,hi,_ =>
   obtain rfl:=Option.some.inj hi;intro a1 w6 hE hoth hpre;have h0:=hpre {on:=8,ground:=.data} (by simp) rfl _ rfl;refine Qcx 50 _ _ rfl _ Tryz.func50 (by kernel_rfl) (by kernel_rfl) [.iface T1 x1] ?_ (fun y w'=>(∃cs,y=.agg cs.toArray∧ScsIs w' (w1.heap.size≤·) cs pr)∧Ext (fun _=>False) w6 w') (scCall _ _ _ _ hprE HOK.out.pr hpr1 w6 hE) ?_
   ·have h1':a1.eval (.tmp 19)=.iface T1 x1:=h0
    simp only[List.map_cons,List.map_nil,h1']
   ·rintro y w'⟨hy,hb⟩
    exact⟨hb,_,rfl,hy⟩
  | 10,hi,_ =>
   obtain rfl:=Option.some.inj hi;intro a1 w6 hE hoth hpre;exact Qb5 (.tmp 0) rfl _ (hoth 0 (by decide)) ⟨.refl _ _,_,rfl,rfl⟩
  | 11,hi,_ =>
   obtain rfl:=Option.some.inj hi;intro a1 w6 hE hoth hpre;exact QbL (.tmp 21) rfl _ (hpre {on:=10,ground:=.data} (by simp) rfl _ rfl) ⟨.refl _ _,_,rfl,rfl⟩
  | 12,hi,_ =>
   obtain rfl:=Option.some.inj hi;intro a1 w6 hE hoth hpre;exact Qaw 128 (.tmp 22) 3 rfl _ (hpre {on:=11,ground:=.data} (by simp) rfl _ rfl) _ (Qgq w6 _) ⟨.refl _ _,_,rfl,rfl⟩
  | 13,hi,_ =>
   obtain rfl:=Option.some.inj hi;intro a1 w6 hE hoth hpre;exact QaO 95 (.tmp 23) rfl _ (hpre {on:=12,ground:=.data} (by simp) rfl _ rfl) _ (ld95 w6 _ _ _ _ (Qaa (hHs w6 hE) rfl)) ⟨.refl _ _,_,rfl,rfl⟩
  | 14,hi,_ =>
   obtain rfl:=Option.some.inj hi;intro a1 w6 hE hoth hpre;have h0:=hpre {on:=13,ground:=.data} (by simp) rfl _ rfl;refine Qcx 50 _ _ rfl _ Tryz.func50 (by kernel_rfl) (by kernel_rfl) [.iface T2 x2] ?_ (fun y w'=>(∃cs,y=.agg cs.toArray∧ScsIs w' (w1.heap.size≤·) cs ac)∧Ext (fun _=>False) w6 w') (scCall _ _ _ _ hacE HOK.out.ac hac1 w6 hE) ?_
   ·have h1':a1.eval (.tmp 24)=.iface T2 x2:=h0
    simp only[List.map_cons,List.map_nil,h1']
   ·rintro y w'⟨hy,hb⟩
    exact⟨hb,_,rfl,hy⟩
  | 15,hi,_ =>
   obtain rfl:=Option.some.inj hi;intro a1 w6 hE hoth hpre;exact Qb5 (.tmp 0) rfl _ (hoth 0 (by decide)) ⟨.refl _ _,_,rfl,rfl⟩
  | 16,hi,_ =>
   obtain rfl:=Option.some.inj hi;intro a1 w6 hE hoth hpre;exact QbL (.tmp 26) rfl _ (hpre {on:=15,ground:=.data} (by simp) rfl _ rfl) ⟨.refl _ _,_,rfl,rfl⟩
  | 17,hi,_ =>
   obtain rfl:=Option.some.inj hi;intro a1 w6 hE hoth hpre;exact Qaw 128 (.tmp 27) 4 rfl _ (hpre {on:=16,ground:=.data} (by simp) rfl _ rfl) _ (Qgr w6 _) ⟨.refl _ _,_,rfl,rfl⟩
  | 18,hi,_ =>
   obtain rfl:=Option.some.inj hi;intro a1 w6 hE hoth hpre;exact QaO 97 (.tmp 28) rfl _ (hpre {on:=17,ground:=.data} (by simp) rfl _ rfl) _ (ld97 w6 _ _ _ _ (Qaa (hHs w6 hE) rfl)) ⟨.refl _ _,_,rfl,rfl⟩
  | 19,hi,_ =>
   obtain rfl:=Option.some.inj hi;intro a1 w6 hE hoth hpre;have h0:=hpre {on:=18,ground:=.data} (by simp) rfl _ rfl;refine Qcx 50 _ _ rfl _ Tryz.func50 (by kernel_rfl) (by kernel_rfl) [.iface T3 x3] ?_ (fun y w'=>(∃cs,y=.agg cs.toArray∧ScsIs w' (w1.heap.size≤·) cs re)∧Ext (fun _=>False) w6 w') (scCall _ _ _ _ hreE HOK.out.re hre1 w6 hE) ?_
   ·have h1':a1.eval (.tmp 29)=.iface T3 x3:=h0
    simp only[List.map_cons,List.map_nil,h1']
   ·rintro y w'⟨hy,hb⟩
    exact⟨hb,_,rfl,hy⟩
  | 20,hi,_ =>
   obtain rfl:=Option.some.inj hi;intro a1 w6 hE hoth hpre;have h0:=hpre {on:=4,ground:=.data} (by simp) rfl _ rfl;obtain⟨s1,h1,q1⟩:=hpre {on:=9,ground:=.data} (by simp) rfl _ rfl;obtain⟨s2,h2,q2⟩:=hpre {on:=14,ground:=.data} (by simp) rfl _ rfl;obtain⟨s3,h3,q3⟩:=hpre {on:=19,ground:=.data} (by simp) rfl _ rfl;obtain⟨p1,d1,e1,r1⟩:=q1;obtain⟨p2,d2,e2,r2⟩:=q2;obtain⟨p3,d3,e3,r3⟩:=q3;subst e1 e2 e3;exact Qfq rfl (!f) _ _ _ _ _ _ _ _ _ _ _ _ _ _ _ _ _ _ _ _ _ h0 h1 h2 h3 ⟨.refl _ _,_,rfl,_,_,_,rfl,⟨_,_,rfl,r1⟩,⟨_,_,rfl,r2⟩,⟨_,_,rfl,r3⟩⟩
  | 21,hi,_ =>
   obtain rfl:=Option.some.inj hi;intro a1 w6 hE hoth hpre;exact Qfp rfl ⟨.below (Qab _ _),_,rfl,_,rfl,heap_alloc_new w6 _,hE.size⟩
  | j+22,_,hj=>omega
 case hlast =>
  intro a1 W2 hF k;have h20:∃c1 c2 c3,a1.tmps.getD 31 undef=.agg (.bool (!f)::.slice none 0 0::(c1++c2++c3++[.slice none 0 0])).toArray∧ScsIs W2 (w1.heap.size≤·) c1 pr∧ScsIs W2 (w1.heap.size≤·) c2 ac∧ScsIs W2 (w1.heap.size≤·) c3 re:=hF.facts 20 _ rfl rfl
  have h21:∃blk,a1.tmps.getD 4 undef=.pointer (some ⟨blk,0,none⟩)∧W2.heap[blk]? =some (.cells pZero 62 (0,0))∧w1.heap.size≤blk:=hF.facts 21 _ rfl rfl
  have hE:=hF.ext;obtain⟨fs,hfr,_⟩:=hF.frame;clear hF;obtain⟨s1,s2,s3,hv,⟨p1,d1,rfl,r1⟩,⟨p2,d2,rfl,r2⟩,⟨p3,d3,rfl,r3⟩⟩:=h20;obtain⟨blk,h4,hb,hbl⟩:=h21;obtain⟨W9,hst,hb9,hE9⟩:=st62 W2 blk 62 (!f) none 0 0 none 0 0 pr.kind pr.u.1 pr.u.2 p1 pr.l.length d1 pr.ty ac.kind ac.u.1 ac.u.2 p2 ac.l.length d2 ac.ty re.kind re.u.1 re.u.2 p3 re.l.length d3 re.ty hb;refine Qcu (k:=k) (i:=22) (by kernel_rfl) rfl rfl ?_
  refine Qct 62 (.tmp 4) (.tmp 31) rfl _ h4 _ hv _ hst ?_;refine Qd4 (by kernel_rfl) ?_ k;have B9:Below w.heap.size w W9:=(((Ext.below (S:=fun _=>False) B1).trans hE).trans' hE9 (fun d hd=>.inr (by omega))).toBelow (fun _ h=>h.elim) (Nat.le_refl _);have hR9:W9.heap[w.heap.size]? =some (.cells pZero 62 (0,0)):=hE9.heap (by omega) (hE.heap id hR1);have hS9:S3 W9 w.heap.size pr ac re p1 p2 p3:=S3.extT (w:=W2) ⟨r1.mono (fun d hd=>by omega),r2.mono (fun d hd=>by omega),r3.mono (fun d hd=>by omega)⟩ hE9 (fun d c fr hd e=>by subst e;exact QcJ hd hb (by decide))
  have h4f:fs 4=.pointer (some ⟨blk,0,none⟩):=by
   subst hfr;rw[show Qbi _=[11,12,13,14,15,16,17,18,19,20,21,22,23,24,25,26,27,28,29,30,31,4]from rfl]at h4;simp (config:={decide:=true}) only[List.mapIdx_toArray,List.mapIdx_cons,List.mapIdx_nil,Nat.zero_add,Nat.reduceAdd,if_true,if_false]at h4;exact h4
  have HQ:Hid (NtRl w (!f) pr ac re p1 p2 p3 d1 d2 d3 blk P.notes (.int .i64 0) W9):=Hi ⟨0,.slice none 0 0,rfl,Nat.zero_le _,hR9,hb9,⟨rfl,.inl ⟨rfl,rfl⟩⟩,hS9,B9⟩;have hbl':w.heap.size<blk:=by omega
  clear hS9 hR9 hb9 hE9 hst r1 r2 r3 hv h4 hb hE hbl;subst hfr;rw[show Qbi _=[11,12,13,14,15,16,17,18,19,20,21,22,23,24,25,26,27,28,29,30,31,4]from rfl];simp (config:={decide:=true}) only[List.mapIdx_toArray,List.mapIdx_cons,List.mapIdx_nil,Nat.zero_add,Nat.reduceAdd,if_true,if_false,Act.put,List.setIfInBounds_toArray,List.set_cons_zero,List.set_cons_succ,h4f];have hT9:=Bk B9 hT;have htT:W9.heap[tb]? =some (.cells #[.bool f,.slice pn P.notes.length cn,.iface T1 x1,.iface T2 x2,.iface T3 x3,.slice pc P.cs.length cc,.string P.fn,.int .i64 P.off,.int .i64 P.ln,.int .i64 P.col] TT (0,0)):=hT9
  have hc1:W9.cell? ⟨tb,1,none⟩=some (.slice pn P.notes.length cn):=Qaa hT9 rfl;clear h4f
  go_upto_region 3 with(fail)
  go_loopw [37] (fun sl wr=>NtRl w (!f) pr ac re p1 p2 p3 d1 d2 d3 blk P.notes sl wr) (fun sl _=>P.notes.length-(intOf sl).toNat)
  case atStart=>exact HQ.out
  case round =>
   clear HQ hc1;obtain⟨i,vN,rfl,hi,hR,hY,hA,hS,hBl⟩:=hrel;have hOK:=HOK.out.notes;by_cases hlt:i<P.notes.length
   ·obtain⟨u,hu⟩:∃a,P.notes[i]? =some a:=⟨P.notes[i],by simp[hlt]⟩
    obtain⟨b,off,cc,fr,rfl,hcb,hc0,hc1⟩:=HN.out i u hu;have hwb:=(hBl.block b (Qad hcb)).trans hcb;have c0:wr.cell? ⟨b,off+i*2,none⟩=some (.string u.1):=Qaa hwb hc0;have c1:wr.cell? ⟨b,off+i*2+1,none⟩=some (.string u.2):=Qaa hwb hc1;have HX:=Hi hu;clear hu hcb hc0 hc1 hwb;have HB:=Hi hBl;clear hBl;obtain⟨pA,cA,rfl,-⟩:=RwU.own hA
    go_upto_region 5 with(fail)
    refine QaB fun w3 hw3=>?_
    have B3:Below wr.heap.size wr w3:=by rw[hw3];exact Qab wr _
    have heb:w3.heap[wr.heap.size]? =some (.cells #[.string u.1,.string u.2] 133 (0,0)):=by rw[hw3];exact heap_alloc_new _ _
    have hz3:wr.heap.size+1=w3.heap.size:=by rw[hw3];simp
    clear hw3 c0 c1;have hY3:=Bk B3 hY;have k0:w3.cell? ⟨wr.heap.size,0,none⟩=some (.string u.1):=Qaa heb rfl;have k1:w3.cell? ⟨wr.heap.size,1,none⟩=some (.string u.2):=Qaa heb rfl;have k2:w3.cell? ⟨blk,1,none⟩=some (.slice pA i cA):=Qaa hY3 rfl;have B4:Below wr.heap.size wr (w3.alloc (.cells #[.string u.1,.string u.2] 66)):=B3.alloc (by omega) _;have hY4:=Bk B4 hY;have hR4:=Bk B4 hR;have hA4:=Qaj (S:=fun _=>False) hA (.below B4) (fun _ h=>h.elim)
    have hS4:=hS.extT (S:=fun _=>False) (.below B4) (fun _ _ _ _=>id);have hnew:=heap_alloc_new w3 (.cells #[.string u.1,.string u.2] 66);have HAll:=Hi (And.intro hA4 (And.intro hY4 (And.intro hR4 (And.intro hS4 (And.intro B4 hnew)))));have hBs:=HB.out.size;clear hA4 hY4 hR4 hS4 hnew B4 hY3 heb hY hR hS hA B3
    go_wp2_with(at_builtin;refine appF sl54 rfl _ _ rfl w.heap.size _ _ _ rfl HAll.out.1 _ [.string u.1,.string u.2] rfl rfl (fun j u hj=>Qaa HAll.out.2.2.2.2.2 (by simpa using hj)) (fun v hv=>by simp at hv;rcases hv with rfl | rfl<;>rfl) (by unfold maxLen;omega) (by omega) (by simp;omega) ?_)
    intro v9 w9 hO9 hg9 hwh;clear hwh;obtain⟨p9,c9,rfl,-⟩:=RwU.own hO9;obtain⟨v9,hv9⟩:∃v9,v9=Value.slice p9 (i+1) c9:=⟨_,rfl⟩
    rw[←hv9]at hO9;obtain⟨hA4,hY4,hR4,hS4,B4,hnew⟩:=HAll.out;have hx9:=QaR hY4 hA4 hg9 (by decide);have hr9:=QaR hR4 hA4 hg9 (by decide);have hs9:=hS4.extT (QaF hg9) (fun d c fr hd e=>by obtain⟨_,c',hc'⟩:=Qa5 hA4 e;exact QcJ hd hc' (by decide));have hB4:Below w.heap.size w (w3.alloc (.cells #[.string u.1,.string u.2] 66)):=HB.out.trans (B4.mono hBs);have hB9:Below w.heap.size w w9:=(Ext.grow (S:=fun _=>False) (.below hB4) hA4 hg9 (Nat.le_refl _)).toBelow (fun _ h=>h.elim) (Nat.le_refl _)
    have hfr:w9.frozen? ⟨blk,1,none⟩=false:=Qae hx9 1;have hc9:w9.cell? ⟨blk,1,none⟩=some (.slice pA i cA):=Qaa hx9 rfl;have hE:Ext (·=blk) w9 (w9.setCell ⟨blk,1,none⟩ v9):=(Ext.refl (·=blk) w9).set (p:=⟨blk,1,none⟩) (.inl rfl) v9;have hset:=Qac (o:=1) hx9 v9;have hsr:=hE.heap (by omega) hr9;have hsO:=Qb3 hO9 hE (fun d hd=>.inr (fun c fr q=>by subst hd;exact QcJ hx9 q (by decide)));have hsS:=hs9.extT hE (fun d c fr hd e=>by subst e;exact QcJ hd hx9 (by decide))
    have hsB:Below w.heap.size w (w9.setCell ⟨blk,1,none⟩ v9):=((Ext.below (S:=fun _=>False) hB9).trans' hE (fun d hd=>.inr (by omega))).toBelow (fun _ h=>h.elim) (Nat.le_refl _);subst hv9;have hkt:Qav (P.notes.take (i+1))=Qav (P.notes.take i)++[.string u.1,.string u.2]:=by rw[List.take_add_one,HX.out,Option.toList];exact Qbm _ _ _
    have HEND:Hid (NtRl w (!f) pr ac re p1 p2 p3 d1 d2 d3 blk P.notes (.int .i64 ((i:Int)+1)) (w9.setCell ⟨blk,1,none⟩ (.slice p9 (i+1) c9))):=Hi ⟨i+1,_,by go_num,by omega,hsr,hset,by rw[hkt];exact hsO,hsS,hsB⟩;clear hset hsr hsO hsS hsB hE hB9 hB4 hs9 hr9 hA4 hY4 hR4 hS4 B4 hnew hO9 hg9 hkt
    go_wp2_with fail
    go_roundw
    case rel=>exact HEND.out
    case measure=>simp[intOf];omega
   ·obtain rfl:i=P.notes.length:=by omega
    obtain⟨pN,cN,rfl,hrN⟩:=RwU.own hA;rw[List.take_of_length_le (Nat.le_refl _)]at hrN;clear hA hi hlt HN;have hTr:=Bk hBl hT;have hc5:wr.cell? ⟨tb,5,none⟩=some (.slice pc P.cs.length cc):=Qaa hTr rfl;obtain⟨ys,hys⟩:∃y,P.cs.map (fun c=>(!c.1,toP c.2))=y:=⟨_,rfl⟩
    have HYS:=Hi hys;clear hys;have HYL:Hid (ys.length=P.cs.length):=Hi (by rw[←HYS.out,List.length_map]);have HQ:Hid (CdRl w (!f) pr ac re p1 p2 p3 d1 d2 d3 blk pN cN P.notes ys (.int .i64 0) wr):=Hi ⟨0,.slice none 0 0,[],rfl,Nat.zero_le _,hR,hY,hrN,⟨rfl,.inl ⟨rfl,rfl⟩⟩,.nil,hS,hBl⟩;clear hR hY hrN hS hBl hTr B9
    go_upto_region 8 with(fail)
    go_loopw [57] (fun sl wr=>CdRl w (!f) pr ac re p1 p2 p3 d1 d2 d3 blk pN cN P.notes ys sl wr) (fun sl _=>P.cs.length-(intOf sl).toNat)
    case atStart=>exact HQ.out
    case round =>
     clear HQ hc5;obtain⟨i,vC,cs,rfl,hi,hR,hY,hN,hA,hCn,hS,hBl⟩:=hrel;have hOK:=HOK.out.conds;by_cases hlt:i<P.cs.length
     ·obtain⟨a,ha⟩:∃a,P.cs[i]? =some a:=⟨P.cs[i],by simp[hlt]⟩
      obtain⟨b,off,ccs,fr,T,v,rfl,hcb,hc0,hc1,hnd⟩:=HC.out i a ha;have hokE:=HOK.out.okE a (List.mem_of_getElem? ha);clear hi;have hwb:=(hBl.block b (Qad hcb)).trans hcb;have q0:wr.cell? ⟨b,off+i*2,none⟩=some (.bool a.1):=Qaa hwb hc0;have q1:wr.cell? ⟨b,off+i*2+1,none⟩=some (.iface T v):=Qaa hwb hc1;have hndw:=hnd.keep (Ext.below (S:=fun _=>False) hBl) (fun _ h=>h.elim);have hya:ys[i]? =some (!a.1,toP a.2):=by rw[←HYS.out,List.getElem?_map,ha];rfl
      have HX:=Hi hya;clear hya ha hcb hc0 hc1 hwb hnd;have HB:=Hi hBl;clear hBl;have HND:=Hi (And.intro hokE hndw);clear hokE hndw;obtain⟨pA,cA,rfl,-⟩:=RwU.own hA;have HR:=Hi hR;clear hR;have HY:=Hi hY;clear hY;have HA:=Hi hA;clear hA;have HN':=Hi hN;clear hN;have HS:=Hi hS;clear hS;have HCn:=Hi hCn;clear hCn
      go_upto_region 10 with(fail)
      refine QaB fun w3 hw3=>?_
      have B3:Below wr.heap.size wr w3:=by rw[hw3];exact Qab wr _
      have heb:w3.heap[wr.heap.size]? =some (.cells #[.bool a.1,.iface T v] 138 (0,0)):=by rw[hw3];exact heap_alloc_new _ _
      have hz3:wr.heap.size+1=w3.heap.size:=by rw[hw3];simp
      clear hw3 q0 q1;have j1:w3.cell? ⟨wr.heap.size,1,none⟩=some (.iface T v):=Qaa heb rfl
      go_wp2_with fail
      refine(expr_px HND.out.1 _ _ _ (HND.out.2.keep (Ext.below (S:=fun _=>False) B3) (fun _ h=>h.elim))).mono ?_;rintro e w4⟨B4,ds,hpx,rfl⟩;clear j1;obtain⟨y,hy⟩:∃y,toP a.2=y:=⟨_,rfl⟩
      rw[hy]at hpx;have HYY:=Hi hy;clear hy;cases hpx with
      | mk op' s' v' keys' pieces' l' pk pp pl ck cp cl cs' hk hp hl hch =>
      have hpx:PxIs w4 (w3.heap.size≤·) _ (.mk op' s' v' keys' pieces' l'):=.mk op' s' v' keys' pieces' l' pk pp pl ck cp cl cs' hk hp hl hch;obtain⟨kd,nn,vs',vt⟩:=v';simp only at hpx;have HPX:=Hi hpx;clear hpx hk hp hl hch
      go_upto_region 11 with(fail)
      refine QaB fun w5 hw5=>?_
      have hz5:w4.heap.size+1=w5.heap.size:=by rw[hw5];simp
      have h5:w5.heap[w4.heap.size]? =some (.cells (xCells op' s' kd nn vs' vt (.slice pk keys'.length ck) (.slice pp pieces'.length cp) (.slice pl l'.length cl)) 33 (0,0)):=by rw[hw5];exact heap_alloc_new _ _
      have B45:Below w4.heap.size w4 w5:=by rw[hw5];exact Qab _ _
      clear hw5;have hs34:=B4.size;have B5:Below wr.heap.size wr w5:=(B3.trans (B4.mono (by omega))).trans (B45.mono (by omega));have hpx5:=HPX.out.after B45;have heb5:=(B45.block _ (Qad (Bk B4 heb))).trans (Bk B4 heb);have hY5:=(B5.block _ (Qad HY.out)).trans HY.out;clear heb B3 B4 B45;obtain⟨k0,k1,k2,k3,k4,k5,k6,k7,k8,k9,k10⟩:=Cl11 h5 rfl rfl rfl rfl rfl rfl rfl rfl rfl rfl rfl;have k11:w5.cell? ⟨wr.heap.size,0,none⟩=some (.bool a.1):=Qaa heb5 rfl
      have k17:w5.cell? ⟨blk,17,none⟩=some (.slice pA i cA):=Qaa hY5 rfl;have B6:Below wr.heap.size wr (w5.alloc (.cells #[.bool (!a.1),.int .i64 op',.string s',.int .i64 kd,.int .i64 nn,.string vs',.string vt,.slice none 0 0,.slice none 0 0,.slice pk keys'.length ck,.slice pp pieces'.length cp,.slice pl l'.length cl] 80)):=B5.alloc (by omega) _;have hA6:=Qaj (S:=fun _=>False) HA.out (.below B6) (fun _ h=>h.elim)
      have hY6:=(B6.block _ (Qad HY.out)).trans HY.out;have hR6:=(B6.block _ (Qad HR.out)).trans HR.out;have hS6:=HS.out.extT (S:=fun _=>False) (.below B6) (fun _ _ _ _=>id);have hN6:=HN'.out.extT (S:=fun _=>False) (.below B6) (fun _ _ _ _=>id);have hC6:=HCn.out.extT (S:=fun _=>False) (.below B6) (fun _ _ _ _=>id) (fun _ _ _ _=>id);have hP6:=hpx5.extT (S:=fun _=>False) (.below (Qab w5 (.cells #[.bool (!a.1),.int .i64 op',.string s',.int .i64 kd,.int .i64 nn,.string vs',.string vt,.slice none 0 0,.slice none 0 0,.slice pk keys'.length ck,.slice pp pieces'.length cp,.slice pl l'.length cl] 80))) (fun _ _ _ _=>id) (fun _ _ _ _=>id)
      have hnew:=heap_alloc_new w5 (.cells #[.bool (!a.1),.int .i64 op',.string s',.int .i64 kd,.int .i64 nn,.string vs',.string vt,.slice none 0 0,.slice none 0 0,.slice pk keys'.length ck,.slice pp pieces'.length cp,.slice pl l'.length cl] 80);have HAll:=Hi (And.intro hA6 (And.intro hY6 (And.intro hR6 (And.intro hS6 (And.intro hN6 (And.intro hC6 (And.intro hP6 (And.intro B6 hnew))))))));have hBs:=HB.out.size
      clear hA6 hY6 hR6 hS6 hN6 hC6 hP6 hnew B6 hY5 heb5 h5 hpx5 B5
      go_wp2_with(at_builtin;refine appF sl60 rfl _ _ rfl w.heap.size _ _ _ rfl HAll.out.1 _ [.bool (!a.1),.int .i64 op',.string s',.int .i64 kd,.int .i64 nn,.string vs',.string vt,.slice none 0 0,.slice none 0 0,.slice pk keys'.length ck,.slice pp pieces'.length cp,.slice pl l'.length cl] rfl rfl (fun j u hj=>Qaa HAll.out.2.2.2.2.2.2.2.2 (by simpa using hj)) (by intro v hv;rcases List.mem_cons.1 hv with rfl | hv;rfl;exact Qh4 HPX.out v hv) (by unfold maxLen;omega) (by omega) (by simp;omega) ?_)
      intro v9 w9 hO9 hg9 hwh;clear hwh;obtain⟨p9,c9,rfl,-⟩:=RwU.own hO9;obtain⟨v9,hv9⟩:∃v9,v9=Value.slice p9 (i+1) c9:=⟨_,rfl⟩
      rw[←hv9]at hO9;obtain⟨hA6,hY6,hR6,hS6,hN6,hC6,hP6,B6,hnew⟩:=HAll.out;have hx9:=QaR hY6 hA6 hg9 (by decide);have hr9:=QaR hR6 hA6 hg9 (by decide);have hT80:∀{d:Nat}{c:Array Value}{T:TypeId}{fr:Nat×Nat},(w5.alloc (.cells #[.bool (!a.1),.int .i64 op',.string s',.int .i64 kd,.int .i64 nn,.string vs',.string vt,.slice none 0 0,.slice none 0 0,.slice pk keys'.length ck,.slice pp pieces'.length cp,.slice pl l'.length cl] 80)).heap[d]? =some (.cells c T fr)→T≠80→¬((Value.slice pA i cA).ownBlock=some d):=fun hd hne e=>by obtain⟨_,c',hc'⟩:=Qa5 hA6 e;exact QcJ hd hc' hne
      have hs9:=hS6.extT (QaF hg9) (fun d c fr hd=>hT80 hd (by decide));have hn9:=hN6.extT (QaF hg9) (fun d c fr hd=>hT80 hd (by decide));have hcn9:=hC6.extT (QaF hg9) (fun d c fr hd=>hT80 hd (by decide)) (fun d c fr hd=>hT80 hd (by decide));have hp9:=hP6.extT (QaF hg9) (fun d c fr hd=>hT80 hd (by decide)) (fun d c fr hd=>hT80 hd (by decide));have hB6:Below w.heap.size w (w5.alloc (.cells #[.bool (!a.1),.int .i64 op',.string s',.int .i64 kd,.int .i64 nn,.string vs',.string vt,.slice none 0 0,.slice none 0 0,.slice pk keys'.length ck,.slice pp pieces'.length cp,.slice pl l'.length cl] 80)):=HB.out.trans (B6.mono hBs)
      have hB9:Below w.heap.size w w9:=(Ext.grow (S:=fun _=>False) (.below hB6) hA6 hg9 (Nat.le_refl _)).toBelow (fun _ h=>h.elim) (Nat.le_refl _);have hfr:w9.frozen? ⟨blk,17,none⟩=false:=Qae hx9 17;have hc9:w9.cell? ⟨blk,17,none⟩=some (.slice pA i cA):=Qaa hx9 rfl;have hE:Ext (·=blk) w9 (w9.setCell ⟨blk,17,none⟩ v9):=(Ext.refl (·=blk) w9).set (p:=⟨blk,17,none⟩) (.inl rfl) v9;have hT62:∀{d:Nat}{c:Array Value}{T:TypeId}{fr:Nat×Nat},w9.heap[d]? =some (.cells c T fr)→T≠62→¬(d=blk):=fun hd hne e=>by subst e;exact QcJ hd hx9 hne
      have hset:=Qac (o:=17) hx9 v9;have hsr:=hE.heap (by omega) hr9;have hsO:=Qb3 hO9 hE (fun d hd=>.inr (fun c fr q=>hT62 q (by decide) hd));have hsS:=hs9.extT hE (fun d c fr hd=>hT62 hd (by decide));have hsN:=hn9.extT hE (fun d c fr hd=>hT62 hd (by decide));have hsC:=(hcn9.extT hE (fun d c fr hd=>hT62 hd (by decide)) (fun d c fr hd=>hT62 hd (by decide))).snoc (b:=!a.1) ((hp9.extT hE (fun d c fr hd=>hT62 hd (by decide)) (fun d c fr hd=>hT62 hd (by decide))).mono (U':=(w.heap.size≤·)) (fun d hd=>by omega))
      have hsB:Below w.heap.size w (w9.setCell ⟨blk,17,none⟩ v9):=((Ext.below (S:=fun _=>False) hB9).trans' hE (fun d hd=>.inr (by omega))).toBelow (fun _ h=>h.elim) (Nat.le_refl _);subst hv9;have hyt:ys.take (i+1)=ys.take i++[(!a.1,.mk op' s' ⟨kd,nn,vs',vt⟩ keys' pieces' l')]:=by rw[List.take_add_one,HX.out,HYY.out];rfl
      have HEND:Hid (CdRl w (!f) pr ac re p1 p2 p3 d1 d2 d3 blk pN cN P.notes ys (.int .i64 ((i:Int)+1)) (w9.setCell ⟨blk,17,none⟩ (.slice p9 (i+1) c9))):=Hi ⟨i+1,_,_,by go_num,by have:=HYL.out;omega,hsr,hset,hsN,hsO,by rw[hyt];exact hsC,hsS,hsB⟩;clear hset hsr hsO hsS hsB hsN hsC hE hB9 hB6 hs9 hr9 hn9 hcn9 hp9 hA6 hY6 hR6 hS6 hN6 hC6 hP6 B6 hnew hO9 hg9 hyt hT80 hT62
      go_wp2_with fail
      go_roundw
      case rel=>exact HEND.out
      case measure=>simp[intOf];omega
     ·obtain rfl:i=ys.length:=by have:=HYL.out;omega
      obtain⟨pA,cA,rfl,hrC⟩:=RwU.own hA;rw[List.take_of_length_le (Nat.le_refl _)]at hCn;have HRO:=Hi (And.intro hrC (And.intro hN (And.intro hCn hS)));clear hrC hN hCn hS hA;have HB:=Hi hBl;clear hBl;have HR:=Hi hR;clear hR;have HY:=Hi hY;clear hY
      go_upto_region 15 with(fail)
      obtain⟨w9,hw9,h9,hE⟩:=st62 wr w.heap.size 62 (!f) pN P.notes.length cN pA ys.length cA pr.kind pr.u.1 pr.u.2 p1 pr.l.length d1 pr.ty ac.kind ac.u.1 ac.u.2 p2 ac.l.length d2 ac.ty re.kind re.u.1 re.u.2 p3 re.l.length d3 re.ty HR.out;refine wp_region_list ?_;refine wpL_load rfl 62 (.tmp 4) rfl _ rfl _ (ld62 _ _ _ _ _ _ _ _ _ _ _ _ _ _ _ _ _ _ _ _ _ _ _ _ _ _ _ _ _ _ HY.out) ?_;refine QdA rfl 62 (.tmp 2) (.tmp 81) rfl _ rfl _ rfl _ hw9 ?_
      clear hw9
      go_wp2_with fail
      refine Qfo _ 2 3 (by kernel_rfl) rfl rfl rfl h9 ?_;have hT62:∀{d:Nat}{c:Array Value}{T:TypeId}{fr:Nat×Nat},wr.heap[d]? =some (.cells c T fr)→T≠62→¬(d=w.heap.size):=fun hd hne e=>by subst e;exact QcJ hd HR.out hne
      obtain⟨hrC,hN,hCn,hS⟩:=HRO.out;refine⟨((Ext.below (S:=fun _=>False) HB.out).trans' hE (fun d hd=>by omega)).toBelow (fun _ h=>h.elim) (Nat.le_refl _),_,?_,rfl⟩;have h1:=hrC.extT hE (fun d c fr hd=>hT62 hd (by decide));have h2:=hN.extT hE (fun d c fr hd=>hT62 hd (by decide));have h3:=hCn.extT hE (fun d c fr hd=>hT62 hd (by decide)) (fun d c fr hd=>hT62 hd (by decide));have h4:=hS.extT hE (fun d c fr hd=>hT62 hd (by decide))
      have hend:PpIs w9 (w.heap.size≤·) [(.bool (!f)),(.slice pN P.notes.length cN),(.int .i64 pr.kind),(.string pr.u.1),(.string pr.u.2),(.slice p1 pr.l.length d1),(.string pr.ty),(.int .i64 ac.kind),(.string ac.u.1),(.string ac.u.2),(.slice p2 ac.l.length d2),(.string ac.ty),(.int .i64 re.kind),(.string re.u.1),(.string re.u.2),(.slice p3 re.l.length d3),(.string re.ty),(.slice pA ys.length cA)] ⟨!f,P.notes,pr,ac,re,ys⟩:=⟨pN,cN,_,_,_,pA,cA,cs,rfl,h2,⟨p1,d1,rfl,h4.1⟩,⟨p2,d2,rfl,h4.2.1⟩,⟨p3,d3,rfl,h4.2.2⟩,h1,h3⟩
      have hpol:Qb1 P=⟨!f,P.notes,pr,ac,re,ys⟩:=by rw[Qb1,hf,hprE,hacE,hreE,HYS.out]
      rw[hpol];exact hend
end Go.Proofs.Pg
namespace Go.Proofs.Pg
open Go.RowKit
def numM:Lib.NumEnd Int→Option Int
 | .ok v=>some v
 | _=>none
def intM(s:ByteArray):Option Int:=numM (Lib.parseIntB 64 s.data.toList)
theorem int_c(s:ByteArray)(w:World)(hg:Glob w)(h15:15≤w.heap.size)(hs:s.size≤1000001):Calls Tryz.prog 246 #[.string s,.int .i64 10,.int .i64 64] w (IntV w (intM s)):=by
 unfold intM;obtain⟨r,hr⟩:∃r,Lib.parseIntB 64 s.data.toList=r:=⟨_,rfl⟩
 rw[hr];rcases r with v | _ | _
 ·have hc:=Tryz.strconv_ParseInt_10_at64_ok s (by omega) v hr w
  refine hc.mono ?_;intro e w' h2;obtain⟨he,hw⟩:=h2;refine⟨?_,he⟩;rcases hw with rfl | ⟨t,rfl⟩
  ·exact .refl _ _
  ·exact Lib.bytesWorld_below _ _ _
 ·obtain⟨T,p,hv⟩:=hg.e5
  have hc:=Tryz.strconv_ParseInt_10_at64_syn s (by omega) _ hr (fun v h=>by cases h) (fun h=>by cases h) _ w hv (.inr ⟨T,p,rfl⟩);refine hc.mono ?_;intro e w' h2;obtain⟨N,he,h3⟩:=h2;exact⟨h3.2.2,_,_,_,he⟩
 ·obtain⟨T,p,hv⟩:=hg.e6
  have hc:=Tryz.strconv_ParseInt_10_at64_range s (by omega) hr _ w hv (.inr ⟨T,p,rfl⟩);refine hc.mono ?_;intro e w' h2;obtain⟨N,he,h3⟩:=h2;exact⟨h3.2.2,_,_,_,he⟩
def lx:Lex:={str:=strM,int:=intM,ext:=fun s=>(extM s).map (·.2),pat:=patM}
theorem lexC:LexC lx where
 str t w hG h15 hz:=str_c t w hG h15 hz
 int s w hG h15 hs:=int_c s w hG h15 hs
 pat base s w hG h15 hb hz:=pat_c s w hG h15 hz base hb
end Go.Proofs.Pg
namespace Go.Proofs.Pg
open Go.RowKit
attribute [local go_sem] Oper.semAt_some
variable {t:List UInt8}{r:Rdr}{lo b:Nat}{σ:Sc}{w w':World}
theorem sl116:SlT Tryz.prog 116 122 (.agg #[.int .i64 0,.string ⟨#[]⟩,.int .i64 0,.int .i64 0,.int .i64 0,.string ⟨#[]⟩]) 6 64:=⟨by kernel_rfl,⟨Tryz.t122,by kernel_rfl,by kernel_rfl,by kernel_rfl,by kernel_rfl⟩,rfl,by decide⟩
def rows(l:List Tok):List Value:=l.flatMap (fun k=>k.row.toList)
theorem QeI(l:List Tok)(k:Tok):rows (l++[k])=rows l++k.row.toList:=by unfold rows;rw[List.flatMap_append];simp
theorem own_ne{S:Nat→Prop}{w w':World}{base:Nat}{e:TypeId}{size:Nat}{v:Value}{n:Nat}{xs:List Value}(h:w.ownsRow base e size v n xs)(he:Ext S w w')(hs:∀d,v.ownBlock=some d→¬S d):w'.ownsRow base e size v n xs:=by
 obtain⟨h1,h2⟩:=h;refine⟨h1,?_⟩;rcases h2 with h | ⟨g,cap,cur,a,b,c,d⟩
 ·exact .inl h
 ·exact .inr ⟨g,cap,cur,a,b,he.heap (hs g (by rw[a];rfl)) c,d⟩
theorem Fr.own{rb b lo:Nat}{x y:World}(h:Fr rb b lo x y){v:Value}{n:Nat}{xs:List Value}(ho:x.ownsRow lo 122 6 v n xs)(hrb:rb<lo)(hb:∀c fr,x.heap[b]?≠some (.cells c 122 fr)):y.ownsRow lo 122 6 v n xs :=
 Qdj ho h fun d hd=>by
  rcases hd with rfl | rfl | ⟨_,c,fr,hc⟩
  ·exact .inl hrb
  ·exact .inr hb
  ·refine .inr fun c' fr' hc'=>?_
   rw[hc]at hc'
   injection hc' with hc'
   injection hc' with _ hc' _
   exact absurd hc' (by decide)
theorem SW.tag(h:SW t r lo b σ w):∀c fr,w.heap[b]?≠some (.cells c 122 fr):=by
 obtain⟨F,tb,off,pos,en,X⟩:=h;obtain⟨cur,hb,_⟩:=X.sn.block;intro c fr hc;rw[hb]at hc
 injection hc with hc
 injection hc with _ hc _
 exact absurd hc (by decide)
abbrev RS(rb lo:Nat):Nat→Prop:=fun d=>d=rb∨lo≤d
theorem Fr.rs{rb b lo:Nat}{x y:World}(h:Fr rb b lo x y)(hb:lo≤b):Ext (RS rb lo) x y:=h.mono fun d hd=>by
 rcases hd with rfl | rfl | ⟨h,_⟩
 ·exact .inl rfl
 ·exact .inr hb
 ·exact .inr h
def msr(t:List UInt8)(tk:Tok)(σ:Sc):Nat:=if tk.ty=0 then 0 else MU t σ+1
theorem msr_le(t:List UInt8)(tk:Tok)(σ:Sc):msr t tk σ<t.length+3:=by
 unfold msr;have:=MU_le t σ;split<;>omega
theorem msr_next{t:List UInt8}{tk:Tok}{σ:Sc}(hc:-1≤σ.ch)(h:tk.ty≠0):msr t (Qa3 t σ).1 (Qa3 t σ).2<msr t tk σ:=by
 unfold msr;rw[if_neg h];split
 ·omega
 ·rename_i h2
  have:=Qgg (.inr hc) h2;omega
def TzR(t:List UInt8)(r:Rdr)(lo b:Nat)(w0:World)(Res:Option (List Tok))(s4 s6:Value)(wr:World):Prop :=
 ∃(f:Nat)(acc:List Tok)(tk:Tok)(σ':Sc)(bx:Nat),s6=.pointer (some ⟨bx,0,none⟩)∧wr.heap[bx]? =some (.cells tk.row 122 (0,0))∧lo≤bx∧s4.ownBlock≠some bx∧wr.ownsRow lo 122 6 s4 acc.length (rows acc) ∧
  SW t r lo b σ' wr∧-1≤σ'.ch∧Ext (RS r.rb lo) w0 wr∧msr t tk σ'<f∧msr t tk σ'+acc.length<t.length+5∧Qde t f acc (tk,σ')=Res∧(∀k∈acc,k.tx.size≤1000000)∧tk.tx.size≤1000000∧(s4=.slice none 0 0→acc=[])
def TzP(rb:Nat)(lo:Nat)(w0:World)(Res:Option (List Tok))(e:Ending)(w':World):Prop :=
 Ext (fun d=>d=rb) w0 w'∧match Res with
 | none=>∃T p,e=.returned (.tuple #[.slice none 0 0,.iface T p])
 | some ts=>∃g cap,e=.returned (.tuple #[.slice (some ⟨g,0,none⟩) ts.length cap,.nilIface])∧lo≤g∧(∃cur,w'.heap[g]? =some (.cells cur 122 (0,0))∧cur.toList.take (ts.length*6)=rows ts)∧(∀k∈ts,k.tx.size≤1000000)∧ts.length≤t.length+5
theorem tokSz(t:List UInt8)(h:t.length≤1000000)(σ:Sc):(Qa3 t σ).1.tx.size≤1000000:=by
 show((((Qb4 t (t.length+3) (QaG t σ)).2.2.ts.map fun s=>tokT t s _).getD []).toArray).size≤_;rw[List.size_toArray];cases (Qb4 t (t.length+3) (QaG t σ)).2.2.ts with
 | none=>exact Nat.zero_le _
 | some s =>
  show(tokT t s _).length≤_;unfold tokT;rw[List.length_take,List.length_drop];omega
theorem SW.other{S:Nat→Prop}(h:SW t r lo b σ w)(he:Ext S w w')(hlo:∀d,S d→lo≤d)(hb:¬S b)(hs:∀d,S d→∀c fr,w.heap[d]?≠some (.cells c 5 fr)):SW t r lo b σ w':=by
 obtain⟨F,tb,off,pos,en,X⟩:=h;exact⟨F,tb,off,pos,en,X.move (X.sn.other he hb hs) (he.mono hlo) X.wf rfl⟩
theorem SW.later(h:SW t r lo b σ w)(hB:Below w.heap.size w w'):SW t r lo b σ w' :=
 h.other (S:=fun _=>False) (.below hB) (fun _ h=>h.elim) (fun h=>h) (fun _ h=>h.elim)
theorem SW.grow{v:Value}{n:Nat}{xs:List Value}(h:SW t r lo b σ w)(ho:w.ownsRow lo 122 6 v n xs)(hg:w.grownBy w' v.ownBlock):SW t r lo b σ w':=by
 refine h.other (QaF hg) (fun d hd=>(Qa5 ho hd).1) (fun hd=>?_) (fun d hd c fr hc=>?_)
 ·obtain⟨_,c,hc⟩:=Qa5 ho hd
  exact h.tag c _ hc
 ·obtain⟨_,c',hc'⟩:=Qa5 ho hd
  rw[hc]at hc'
  injection hc' with hc'
  injection hc' with _ hc' _
  exact absurd hc' (by decide)
theorem SW.box{bx:Nat}{cs:Array Value}{fr:Nat×Nat}(h:SW t r lo b σ w)(hb:w.heap[bx]? =some (.cells cs 122 fr))(hl:lo≤bx)(he:Ext (fun d=>d=bx) w w'):SW t r lo b σ w':=by
 refine h.other he (fun d hd=>by subst hd;exact hl) (fun hd=>?_) (fun d hd c fr hc=>?_)
 ·subst hd;exact h.tag _ _ hb
 ·subst hd
  rw[hb]at hc
  injection hc with hc
  injection hc with _ hc _
  exact absurd hc (by decide)
def MUW(n b:Nat)(w:World):Nat:=match w.cell? ⟨b,1038,none⟩with
 | some (.int _ c)=>if c=-1 then 0 else remW n b w+1
 | _=>0
theorem SW.MUW(h:SW t r lo b σ w)(hc:-1≤σ.ch):MUW t.length b w=MU t σ:=by
 have hr:=h.rem;obtain⟨F,tb,off,pos,en,X⟩:=h;unfold Pg.MUW MU QaG;rw[X.sn.c_ch,X.wf.fch,if_neg (show ¬σ.ch=-2 by omega)];show(if σ.ch=-1 then 0 else remW t.length b w+1)=Pg.mu t (σ.ch,{σ with ts:=none,pl:=0});rw[hr];rfl
def MUT(n b:Nat)(v:Value)(w:World):Nat:=match v with
 | .pointer (some a)=>(match w.cell? a with
  | some (.int _ c)=>if c=0 then 0 else MUW n b w+1
  | _=>0)
 | _=>0
theorem MUT_of{bx:Nat}{tk:Tok}(h:SW t r lo b σ w)(hc:-1≤σ.ch)(hb:w.heap[bx]? =some (.cells tk.row 122 (0,0))):MUT t.length b (.pointer (some ⟨bx,0,none⟩)) w=msr t tk σ:=by
 have k0:w.cell? ⟨bx,0,none⟩=some (.int .i64 tk.ty):=Qaa hb rfl;unfold MUT msr;simp only[k0];rw[h.MUW hc]
theorem Qgs(hR:r.R w t)(hT:Lib.Utf8Tabs 1 2 w)(hE:∃a,w.cell? ⟨0,0,none⟩=some (.iface 346 (.pointer (some a))))(h15:15≤w.heap.size)(hl:t.length≤900000)(hL:RdLaw r w.heap.size) :
  Calls Tryz.prog 60 #[r.val] w (TzP (t:=t) r.rb w.heap.size w (toks t)):=by
 obtain⟨lo,hlo⟩:∃lo,w.heap.size=lo:=⟨_,rfl⟩
 rw[hlo]at h15 hL ⊢;have HLO:=Hi hlo;have HL:=Hi hL;clear hL;have HR:=Hi hR;clear hR;have HT:=Hi hT;clear hT;have HE:=Hi hE;clear hE;clear hlo;go_enter Tryz.func60,Tryz.ntmps60
 go_upto_region 3 with(fail)
 refine Qba fun w1 hw1=>?_
 have S1:Sn w1 lo w.heap.size F0 []:=hw1▸sn_zero w lo (Nat.le_of_eq HLO.out.symm);have B1:Below w.heap.size w w1:=hw1▸Qab _ _;have hz1:lo<w1.heap.size:=by rw[hw1,←HLO.out];simp
 clear hw1;rw[HLO.out]at S1 ⊢;have hR1:r.R w1 t:=HL.out.keep _ _ _ HR.out (.below B1);have hT1:=Qbg HT.out (Ext.below (S:=fun _=>False) B1) (fun h=>h) (fun h=>h);have hE1:∃a,w1.cell? ⟨0,0,none⟩=some (.iface 346 (.pointer (some a))):=by
  obtain⟨a,ha⟩:=HE.out;exact⟨a,(Ext.below (S:=fun _=>False) B1).cell (p:=⟨0,0,none⟩) (fun h=>h) ha⟩
 go_wp2_with fail
 refine(init_c (t:=t) S1 hR1 hT1 hE1 (by omega) h15 (by omega) HL.out).mono ?_;rintro e w2⟨rfl,h2,E2⟩;have hz2:=Nat.lt_of_lt_of_le hz1 E2.size;clear S1 hR1 hT1 hE1;have HX2:Hid (Ext (RS r.rb lo) w w2):=Hi ((Ext.below B1).trans (E2.mono fun d h=>.inr (Nat.le_of_eq h.symm)));clear E2 B1 hz1
 go_wp2_with fail
 refine(Qe5 h2 HL.out.hrb).mono ?_;rintro e w3⟨rfl,h3,F3⟩;clear h2;have hz3:=Nat.lt_of_lt_of_le hz2 F3.size;have HX3:Hid (Ext (RS r.rb lo) w w3):=Hi (HX2.out.trans (F3.rs (Nat.le_refl _)));have HSZ:Hid ((Qa3 t σ0).1.tx.size≤1000000):=Hi (tokSz t (by omega) _);have HCH:Hid (-1≤(Qa3 t σ0).2.ch):=Hi (QcV (.inl rfl));have HS3:=Hi h3;clear h3 F3;have HRS:Hid (Qde t (t.length+3) [] (Qa3 t σ0)=toks t):=Hi rfl
 generalize toks t=Res at *;generalize hn0:Qa3 t σ0=n0 at *;clear hn0;obtain⟨tk,σ1⟩:=n0;simp only at HS3 HSZ HCH
 go_upto_block 0 with(fail)
 refine Qba fun w4 hw4=>?_
 have hb4:w4.heap[w3.heap.size]? =some (.cells tk.row 122 (0,0)):=hw4▸heap_alloc_new w3 _;have B4:Below w3.heap.size w3 w4:=hw4▸Qab w3 _;clear hw4;have HTZ:Hid (TzR t r lo lo w Res (.slice none 0 0) (.pointer (some ⟨w3.heap.size,0,none⟩)) w4):=Hi ⟨t.length+3,[],tk,σ1,w3.heap.size,rfl,hb4,Nat.le_of_lt hz3,by simp[Value.ownBlock],World.ownsRow_nil _ _ _ _,HS3.out.later B4,HCH.out,HX3.out.trans (.below B4),msr_le t tk σ1,by have:=msr_le t tk σ1;simp only[List.length_nil];omega,HRS.out,by simp,HSZ.out,fun _=>rfl⟩
 clear hb4 B4 HX3 HX2 HSZ HCH HS3 HRS hz3 hz2
 go_wp2_with fail
 go_loopw [4,6] (fun s4 s6 wr=>TzR t r lo lo w Res s4 s6 wr) (fun _ s6 wr=>MUT t.length lo s6 wr)
 case atStart=>exact HTZ.out
 case round =>
  clear HTZ HR HT HE;obtain⟨f,acc,tk,σ',bx,rfl,hbx,hbl,hne,hown,h1,hch,hx,hmu,hacc,hres,hsz,htz,hnil⟩:=hrel;obtain⟨f,rfl⟩:∃f',f=f'+1:=⟨f-1,by omega⟩
  rw[Qde]at hres;have HMW:=Hi (MUT_of h1 hch hbx);have HS:=Hi h1;have hlt:=Qad hbx;have k0:wr.cell? ⟨bx,0,none⟩=some (.int .i64 tk.ty):=Qaa hbx rfl;have k1:wr.cell? ⟨bx,1,none⟩=some (.string tk.fn):=Qaa hbx rfl;have k2:wr.cell? ⟨bx,2,none⟩=some (.int .i64 tk.off):=Qaa hbx rfl;have k3:wr.cell? ⟨bx,3,none⟩=some (.int .i64 tk.ln):=Qaa hbx rfl;have k4:wr.cell? ⟨bx,4,none⟩=some (.int .i64 tk.col):=Qaa hbx rfl
  have k5:wr.cell? ⟨bx,5,none⟩=some (.string tk.tx):=Qaa hbx rfl;have HB:=Hi hbx;clear hbx;obtain⟨F,tb,off,pos,en,X⟩:=h1;have hblt:=X.sn.lt;have d0:=X.sn.c_er;have HX:=Hi X;clear X;have HXX:=Hi hx;clear hx;have HOWN:=Hi hown;clear hown;have HSZ:=Hi hsz;clear hsz;have HNIL:=Hi hnil;clear hnil;cases her:σ'.er with
  | true =>
   obtain⟨T,p,he⟩:=HX.out.wf.er1 her;rw[he]at d0;have HRES:Hid (Res=none):=Hi (by rw[←hres,if_pos her]);clear hres her he
   go_wp2_with fail
   go_quiet (fail)
   go_wp2_with fail
   go_ret2
   rw[HRES.out];refine⟨?_,T,p,rfl⟩;exact⟨HXX.out.os,HXX.out.tape,HXX.out.output,HXX.out.size,fun d hd hn=>HXX.out.block d hd (fun h=>h.elim hn (fun h=>by have:=HLO.out;omega))⟩
  | false =>
   rw[HX.out.wf.er0 her]at d0;rw[if_neg (by rw[her];decide)]at hres;clear her;by_cases hty:tk.ty=0
   ·rw[if_pos hty]at hres
    have HRES:=Hi hres;clear hres;have q1:(tk.ty != 0)=false:=by simp[hty]
    have q2:(tk.ty==0)=true:=by simp[hty]
    have HTY:=Hi hty;clear hty;have d1:=HX.out.sn.c_pf;have d2:=HX.out.sn.c_po;have d3:=HX.out.sn.c_pl;have d4:=HX.out.sn.c_pc;rw[HX.out.wf.fpf]at d1;rw[HX.out.wf.fpo]at d2;rw[HX.out.wf.fpl]at d3;rw[HX.out.wf.fpc]at d4;have n0:∀j u,[.int .i64 0,.string ⟨#[]⟩,.int .i64 σ'.po,.int .i64 σ'.pl,.int .i64 σ'.pc,.string ⟨#[]⟩][j]? =some u→(wr.alloc (.cells #[.int .i64 0,.string ⟨#[]⟩,.int .i64 σ'.po,.int .i64 σ'.pl,.int .i64 σ'.pc,.string ⟨#[]⟩] 122)).cell? ⟨wr.heap.size,j,none⟩=some u:=by
     intro j u hj;exact Qaa (heap_alloc_new _ _) (by simpa using hj)
    have hOa:=Qaj (S:=fun _=>False) HOWN.out (.below (Qab wr (.cells #[.int .i64 0,.string ⟨#[]⟩,.int .i64 σ'.po,.int .i64 σ'.pl,.int .i64 σ'.pc,.string ⟨#[]⟩] 122))) (fun _ h=>h.elim);have hSa:=HS.out.later (Qab wr (.cells #[.int .i64 0,.string ⟨#[]⟩,.int .i64 σ'.po,.int .i64 σ'.pl,.int .i64 σ'.pc,.string ⟨#[]⟩] 122));have HSA:=Hi hSa;clear hSa;have hlz:=HX.out.hlo;have hal:acc.length≤1000000:=by omega
    go_wp2_with(at_builtin;refine appG sl116 rfl _ _ rfl lo _ _ _ rfl hOa _ [.int .i64 0,.string ⟨#[]⟩,.int .i64 σ'.po,.int .i64 σ'.pl,.int .i64 σ'.pc,.string ⟨#[]⟩] rfl rfl n0 (fun v hv=>by simp at hv;rcases hv with rfl | rfl | rfl | rfl | rfl | rfl<;>rfl) (by unfold maxLen;omega) (by omega) (by simp;omega) ?_)
    intro v9 w9 hO9 hg9 hnn;have HO9:=Hi hO9;have HG9:=Hi hg9;have HOA:=Hi hOa;have HNN:=Hi hnn;clear hO9 hg9 hOa n0 hnn
    go_wp2_with fail
    go_ret2
    rw[←HRES.out];obtain⟨hw9,hv9⟩:=HO9.out;rcases hv9 with⟨hv,_⟩ | ⟨g,cap,cur,hv,hg1,hg2,hg3,hg4,hg5,hg6⟩
    ·exact absurd hv HNN.out
    ·have hxw:Ext (RS r.rb lo) w w9:=(HXX.out.alloc _).trans ((QaF HG9.out).mono fun d hd=>.inr (Qa5 HOA.out hd).1)
     refine⟨⟨hxw.os,hxw.tape,hxw.output,hxw.size,fun d hd hn=>hxw.block d hd (fun h=>h.elim hn (fun h=>by have:=HLO.out;omega))⟩,g,cap,?_,hg1,⟨cur,hg2,?_⟩,?_,?_⟩
     ·rw[hv,List.length_append]
      rfl
     ·rw[QeI,List.length_append]
      exact hg6
     ·intro k hk
      rcases List.mem_append.1 hk with hk | hk
      ·exact HSZ.out k hk
      ·rw[List.mem_singleton.1 hk];exact Nat.zero_le _
     ·rw[List.length_append]
      show acc.length+1≤_;omega
   ·rw[if_neg hty]at hres
    have HRES:=Hi hres;clear hres;have q1:(tk.ty != 0)=true:=by simp[hty]
    have q2:(tk.ty==0)=false:=by simp[hty]
    have HTY:=Hi hty;clear hty;have n0:∀j u,[.int .i64 tk.ty,.string tk.fn,.int .i64 tk.off,.int .i64 tk.ln,.int .i64 tk.col,.string tk.tx][j]? =some u→(wr.alloc (.cells #[.int .i64 tk.ty,.string tk.fn,.int .i64 tk.off,.int .i64 tk.ln,.int .i64 tk.col,.string tk.tx] 122)).cell? ⟨wr.heap.size,j,none⟩=some u:=by
     intro j u hj;exact Qaa (heap_alloc_new _ _) (by simpa using hj)
    have hOa:=Qaj (S:=fun _=>False) HOWN.out (.below (Qab wr (.cells #[.int .i64 tk.ty,.string tk.fn,.int .i64 tk.off,.int .i64 tk.ln,.int .i64 tk.col,.string tk.tx] 122))) (fun _ h=>h.elim);have hSa:=HS.out.later (Qab wr (.cells #[.int .i64 tk.ty,.string tk.fn,.int .i64 tk.off,.int .i64 tk.ln,.int .i64 tk.col,.string tk.tx] 122));have HSA:=Hi hSa;clear hSa;have hlz:=HX.out.hlo;have hal:acc.length≤1000000:=by omega
    go_wp2_with(at_builtin;refine appG sl116 rfl _ _ rfl lo _ _ _ rfl hOa _ [.int .i64 tk.ty,.string tk.fn,.int .i64 tk.off,.int .i64 tk.ln,.int .i64 tk.col,.string tk.tx] rfl rfl n0 (fun v hv=>by simp at hv;rcases hv with rfl | rfl | rfl | rfl | rfl | rfl<;>rfl) (by unfold maxLen;omega) (by omega) (by simp;omega) ?_)
    intro v9 w9 hO9 hg9 hnn;have hb9:w9.heap[bx]? =some (.cells tk.row 122 (0,0)):=(hg9.block bx (by simp;omega) (fun e=>hne e.symm)).trans (Qaf HB.out _);have hs9:=HSA.out.grow hOa hg9;have hx9:Ext (RS r.rb lo) w w9:=(HXX.out.alloc _).trans ((QaF hg9).mono fun d hd=>.inr (Qa5 hOa hd).1);have hz9:wr.heap.size<w9.heap.size:=by have:=hg9.size;simp at this;omega
    rw[show rows acc++[.int .i64 tk.ty,.string tk.fn,.int .i64 tk.off,.int .i64 tk.ln,.int .i64 tk.col,.string tk.tx]=rows (acc++[tk])from(QeI acc tk).symm]at hO9;clear hg9 hOa n0 k0 k1 k2 k3 k4 k5 d0 hblt hlt;have hlt:=Qad hb9;have k0:w9.cell? ⟨bx,0,none⟩=some (.int .i64 tk.ty):=Qaa hb9 rfl;have k1:w9.cell? ⟨bx,1,none⟩=some (.string tk.fn):=Qaa hb9 rfl;have k2:w9.cell? ⟨bx,2,none⟩=some (.int .i64 tk.off):=Qaa hb9 rfl
    have k3:w9.cell? ⟨bx,3,none⟩=some (.int .i64 tk.ln):=Qaa hb9 rfl;have k4:w9.cell? ⟨bx,4,none⟩=some (.int .i64 tk.col):=Qaa hb9 rfl;have k5:w9.cell? ⟨bx,5,none⟩=some (.string tk.tx):=Qaa hb9 rfl;have HB9:=Hi hb9;clear hb9;have HS9:=Hi hs9;clear hs9;have HX9:=Hi hx9;clear hx9;have HO9:=Hi hO9;clear hO9;have HNN:=Hi hnn;clear hnn
    go_upto_region 6 with(fail)
    refine Qba fun w10 hw10=>?_
    have hb10:w10.heap[w9.heap.size]? =some (.cells tk.row 122 (0,0)):=hw10▸heap_alloc_new w9 _;have B10:Below w9.heap.size w9 w10:=hw10▸Qab w9 _;clear hw10;have h10:=HS9.out.later B10;have hX10:Ext (RS r.rb lo) w w10:=HX9.out.trans (.below B10);have hO10:=Qaj (S:=fun _=>False) HO9.out (.below B10) (fun _ h=>h.elim);have hob:v9.ownBlock≠some w9.heap.size:=fun e=>by have:=(Qa5 HO9.out e).2;obtain⟨c,hc⟩:=this;exact absurd (Qad hc) (Nat.lt_irrefl _)
    obtain⟨nb,hnb⟩:∃n,w9.heap.size=n:=⟨_,rfl⟩
    rw[hnb]at hb10 hob ⊢;have hnb0:lo≤nb:=by omega
    clear hnb B10 hlt k0 k1 k2 k3 k4 k5 HB9 HO9 HX9
    go_wp2_with fail
    refine(Qe5 h10 HL.out.hrb).mono ?_;rintro e w11⟨rfl,h11,F11⟩;have hm:=msr_next (t:=t) hch HTY.out;have hc11:=QcV (t:=t) (σ:=σ') (.inr hch);have hs11:=tokSz t (by omega) σ';have hb11:w11.heap[nb]? =some (.cells tk.row 122 (0,0)):=by
     rw[F11.block nb (Qad hb10) ?_]
     ·exact hb10
     ·rintro(h | h |⟨_,c,fr,hc⟩)
      ·have:=HL.out.hrb;omega
      ·rw[h]at hb10
       exact h10.tag _ _ hb10
      ·rw[hb10]at hc
       injection hc with hc
       injection hc with _ hc _
       exact absurd hc (by decide)
    have hO11:=F11.own hO10 HL.out.hrb h10.tag;have hX11:Ext (RS r.rb lo) w w11:=hX10.trans (F11.rs (Nat.le_refl _));clear h10 F11 hO10 hX10 hb10;generalize Qa3 t σ'=n1 at *;obtain⟨tk1,σ2⟩:=n1;simp only at hm hc11 hs11 h11;have HM:=Hi hm;have HC11:=Hi hc11;have HS11:=Hi hs11;have H11:=Hi h11;have HB11:=Hi hb11;have HO11:=Hi hO11;have HX11:=Hi hX11;have hlt:=Qad hb11;clear hm hc11 hs11 h11 hO11 hX11
    have k0:w11.cell? ⟨nb,0,none⟩=some (.int .i64 tk.ty):=Qaa hb11 rfl;have k1:w11.cell? ⟨nb,1,none⟩=some (.string tk.fn):=Qaa hb11 rfl;have k2:w11.cell? ⟨nb,2,none⟩=some (.int .i64 tk.off):=Qaa hb11 rfl;have k3:w11.cell? ⟨nb,3,none⟩=some (.int .i64 tk.ln):=Qaa hb11 rfl;have k4:w11.cell? ⟨nb,4,none⟩=some (.int .i64 tk.col):=Qaa hb11 rfl;have k5:w11.cell? ⟨nb,5,none⟩=some (.string tk.tx):=Qaa hb11 rfl
    have kf0:=Qae hb11 0;have kf1:=Qae hb11 1;have kf2:=Qae hb11 2;have kf3:=Qae hb11 3;have kf4:=Qae hb11 4;have kf5:=Qae hb11 5;clear hb11
    go_wp2_with fail
    have hfin:=Qac (o:=5) (Qac (o:=4) (Qac (o:=3) (Qac (o:=2) (Qac (o:=1) (Qac (o:=0) HB11.out (.int .i64 tk1.ty)) (.string tk1.fn)) (.int .i64 tk1.off)) (.int .i64 tk1.ln)) (.int .i64 tk1.col)) (.string tk1.tx);have EK:=((((((Ext.refl (fun d=>d=nb) w11).setb 0 (.int .i64 tk1.ty)).setb 1 (.string tk1.fn)).setb 2 (.int .i64 tk1.off)).setb 3 (.int .i64 tk1.ln)).setb 4 (.int .i64 tk1.col)).setb 5 (.string tk1.tx)
    have hS:=H11.out.box HB11.out hnb0 EK;rw[HMW.out,MUT_of (tk:=tk1) hS HC11.out hfin];have hm:=HM.out;refine⟨⟨f,acc++[tk],tk1,σ2,nb,rfl,hfin,hnb0,hob,?_,hS,HC11.out,HX11.out.trans (EK.mono fun d h=>by subst h;exact .inr hnb0),by omega,?_,HRES.out,?_,HS11.out,fun e=>absurd e HNN.out⟩,hm⟩
    ·rw[List.length_append]
     exact own_ne HO11.out EK fun d hd h=>hob (by rw[hd,h])
    ·rw[List.length_append]
     show msr t tk1 σ2+(acc.length+1)<_;omega
    ·intro k hk
     rcases List.mem_append.1 hk with hk | hk
     ·exact HSZ.out k hk
     ·rw[List.mem_singleton.1 hk];exact htz
end Go.Proofs.Pg
