/- FnDecodeAll, part 34. -/
import Derived.Test.YtmhjkkkhdlnngaaGreatDoorZ33
set_option linter.all false
set_option maxRecDepth 100000
set_option maxHeartbeats 0
namespace Go.Proofs.Pg
open Go.RowKit Go.Proofs.Tryz
attribute [local go_sem] Oper.semAt_some
theorem newdec_c(w:World)(rb:Nat):Calls prog 36 #[rdV rb] w fun e w'=>e=.returned (.pointer (some ⟨w.heap.size,0,none⟩))∧w'=w.alloc (.cells #[rdV rb,.pointer none,.nilIface] 127):=by
 go_enter func36,ntmps36
 go_wp2_with fail
 go_ret;exact⟨rfl,rfl⟩
def mz(db:Nat)(w:World):Nat:=match w.cell? ⟨db,1,none⟩with
 | some (.pointer (some a))=>left w a.block
 | _=>1000001
def DaRel(t:List UInt8)(rb db N:Nat)(Res:Option (List Pol))(w2:World)(v4:Value)(wr:World):Prop :=
 ∃bp0 base0 f acc cs pend,DcIn t rb db bp0 base0 N wr pend∧pend.bind (Qiu lx N f acc)=Res∧(∀vs,pend=some vs→vs.length<f∧Good vs∧acc.length+vs.length≤N)∧rb≤bp0∧bp0≠db∧(bp0=rb→acc=[]∧v4=.slice none 0 0) ∧
  (bp0≠rb→rb<base0∧wr.ownsRow base0 62 18 v4 acc.length cs∧PsRows wr base0 cs (acc.map Qb1))∧Ext (fun d=>d=rb∨d=db) w2 wr∧∃p c,v4=.slice p acc.length c
theorem DcIn.lt{t:List UInt8}{rb db bp0 base0 N:Nat}{W:World}{pend:Option Toks}(h:DcIn t rb db bp0 base0 N W pend)(hr:rb<W.heap.size):bp0<W.heap.size:=by
 rcases h with⟨_,_,_,rfl,_⟩ | ⟨vs,_,_,hp,_⟩
 ·exact hr
 ·exact hp.lt
theorem DcIn.mz{t:List UInt8}{rb db bp0 base0 N:Nat}{W:World}{vs:Toks}(h:DcIn t rb db bp0 base0 N W (some vs))(hl:vs.length≤1000000):vs.length≤Pg.mz db W:=by
 unfold Pg.mz;rcases h with⟨_,h1,_⟩ | ⟨us,h0,h1,hp,_⟩
 ·rw[Qaa (o:=1) h1 rfl]
  show vs.length≤1000001;omega
 ·rw[Qaa (o:=1) h1 rfl]
  cases h0;show vs.length≤left W bp0;rw[hp.left];exact Xb _
theorem DcIn.below{t:List UInt8}{rb db bp0 base0 N:Nat}{W W':World}{pend:Option Toks}(h:DcIn t rb db bp0 base0 N W pend)(hb:Below W.heap.size W W'):DcIn t rb db bp0 base0 N W' pend:=by
 rcases h with⟨h0,h1,h2,h3⟩ | ⟨vs,h0,h1,h2,h3⟩
 ·refine .inl ⟨h0,Bk hb h1,?_,h3⟩
  obtain⟨s,p,m,cp,k1,k2,k3,k4⟩:=h2.ext (S:=fun _=>False) (.below hb) (fun h=>h) (fun _ _ _ h=>h);exact⟨s,p,m,cp,k1,k2,k3,k4.imp id (fun⟨d,o,c,T,fr,a1,a2,a3,a4,a5⟩=>⟨d,o,c,T,fr,a1,a2,Nat.lt_of_lt_of_le a3 hb.size,a4,a5⟩)⟩
 ·exact .inr ⟨vs,h0,Bk hb h1,h2.below hb,h3⟩
theorem QiR{w:World}{d o m:Nat}(h:∀j,j<m→∃x,w.cell? ⟨d,o+j,none⟩=some (.int .i64 x))(hm:m≠0):∃c T fr,w.heap[d]? =some (.cells c T fr)∧∀j,j<m→∃x,c[o+j]? =some (.int .i64 x):=by
 obtain⟨x,hx⟩:=h 0 (by omega);unfold World.cell? at hx;cases hh:w.heap[d]? with
 | none=>simp[hh]at hx
 | some ob =>
  cases ob with
  | cells c T fr =>
   refine⟨c,T,fr,rfl,fun j hj=>?_⟩;obtain⟨y,hy⟩:=h j hj;unfold World.cell? at hy;simp[hh]at hy;exact⟨y,hy⟩
  | _=>simp[hh]at hx
theorem PpIs.extS{w w':World}{U S:Nat→Prop}{cs:List Value}{P:PPol}(h:PpIs w U cs P)(he:Ext S w w')(hs:∀d c T fr,w.heap[d]? =some (.cells c T fr)→T=66∨T=56∨T=80∨T=9∨T=33→¬S d):PpIs w' U cs P:=by
 obtain⟨pn,cn,c1,c2,c3,pc,cc,cells,h1,h2,h3,h4,h5,h6,h7⟩:=h;exact⟨pn,cn,c1,c2,c3,pc,cc,cells,h1,h2.extT he (fun d c fr q=>hs d c _ fr q (by decide)),h3.extT he (fun d c fr q=>hs d c _ fr q (by decide)),h4.extT he (fun d c fr q=>hs d c _ fr q (by decide)),h5.extT he (fun d c fr q=>hs d c _ fr q (by decide)),h6.extT he (fun d c fr q=>hs d c _ fr q (by decide)),h7.extT he (fun d c fr q=>hs d c _ fr q (by decide)) (fun d c fr q=>hs d c _ fr q (by decide))⟩
theorem rows_dec{rb db tb bp0 base0:Nat}{w w':World}{v:Value}{n:Nat}{cs:List Value}{l:List PPol}{t:List UInt8}{N:Nat}{pend:Option Toks}(hin:DcIn t rb db bp0 base0 N w pend)(ht:∃c,w.heap[tb]? =some (.cells c 102 (0,0)))(hb:bp0≠rb)
  (ho:w.ownsRow base0 62 18 v n cs)(hp:PsRows w base0 cs l)(hX:Ext (fun d=>d=db∨d=tb∨d=bp0) w w'):w'.ownsRow base0 62 18 v n cs∧PsRows w' base0 cs l:=by
 have htag:∀d,(d=db∨d=tb∨d=bp0)→∃c T,w.heap[d]? =some (.cells c T (0,0))∧(T=127∨T=102∨T=142):=by
  rcases hin with⟨_,_,_,h,_⟩ | ⟨vs,_,hd,hps,_⟩
  ·exact absurd h hb
  ·obtain⟨_,_,_,_,_,_,hbp,_⟩:=hps.ex
   obtain⟨c1,ht⟩:=ht;rintro d(rfl | rfl | rfl)
   ·exact⟨_,_,hd,.inl rfl⟩
   ·exact⟨_,_,ht,.inr (.inl rfl)⟩
   ·exact⟨_,_,hbp,.inr (.inr rfl)⟩
 refine⟨Qb3 ho hX (fun d hd=>.inr fun c fr e=>?_),hp.1,fun i a hi=>(hp.2 i a hi).extS hX (fun d c T fr hd hT hk=>?_)⟩
 ·obtain⟨c',T',h1,h2⟩:=htag d hd
  rw[h1]at e;cases e;rcases h2 with h2 | h2 | h2<;>exact absurd h2 (by decide)
 ·obtain⟨c',T',h1,h2⟩:=htag d hk
  rw[h1]at hd;cases hd;rcases h2 with rfl | rfl | rfl<;>revert hT<;>decide
theorem QiS{w5 w6 w8 w9:World}{base n:Nat}{v:Value}{cs ds:List Value}{l:List PPol}{a:PPol}(hO:w5.ownsRow base 62 18 v n cs)(hP:PsRows w5 base cs l)(h6:Below w5.heap.size w5 w6)(hD:PpIs w6 (w5.heap.size≤·) ds a)(h8:Below w6.heap.size w6 w8)(hbw:base≤w5.heap.size)
  (hg:w8.grownBy w9 v.ownBlock):PsRows w9 base (cs++ds) (l++[a]):=by
 have B8:=h6.trans (h8.mono h6.size);have hO8:=Qb3 (S:=fun _=>False) hO (.below B8) (fun _ h=>h.elim);exact((hP.after B8).grow hO8 hg).snoc (((hD.after h8).mono (U':=(base≤·)) (fun d hd=>by omega)).grow hO8 hg)
theorem dal_c(s:ByteArray)(hs:s.size≤800000)(p:Option Addr)(m cp:Nat)(w:World)(hG:Glob w)(a0:Addr)(u0:Value)(hE:w.cell? ⟨0,0,none⟩=some (.iface 346 (.pointer (some a0))))(ha:w.cell? a0=some u0)(h15:15≤w.heap.size)(hm:m≤1000000∧m≤cp∧cp≤maxLen)
  (hc:m=0∨∃d o,p=some ⟨d,o,none⟩∧∀j,j<m→∃x,w.cell? ⟨d,o+j,none⟩=some (.int .i64 x)) :
  Calls prog 14 #[.string s,.slice p m cp] w (PasP w (Qit lx s.data.toList)):=by
 have HPO:=Hi (fun(ts:Toks)(h:toks s.data.toList=some ts)=>QhX (show s.data.toList.length≤800000 from hs) h);have HA0:=Hi (Xc hE (Xc ha hG));have hak:=QcN ha;have HC:=Hi hc;obtain⟨t,ht⟩:∃t,s.data.toList=t:=⟨_,rfl⟩
 have HTS:=Hi ht;have htl:t.length≤800000:=by rw[←ht];exact hs
 rw[ht]at HPO ⊢;clear hE ha hG hc ht;go_enter func14,ntmps14
 go_wp2_with fail
 refine(newdec_c _ w.heap.size).mono ?_;rintro e w2⟨rfl,hw2⟩;have hr2:w2.heap[w.heap.size]? =some (.cells #[.string s,.slice p m cp] 89 (0,0)):=by rw[hw2];exact Qaf (Xa w _) _
 have hd2:w2.heap[w.heap.size+1]? =some (.cells #[rdV w.heap.size,.pointer none,.nilIface] 127 (0,0)):=by rw[hw2];exact Qah (by simp) _
 have B2:Below w.heap.size w w2:=by rw[hw2];exact(Qab w _).alloc (by simp) _
 have hz2:w2.heap.size=w.heap.size+2:=by rw[hw2];simp
 rw[show(w.alloc (.cells #[.string s,.slice p m cp] 89)).heap.size=w.heap.size+1 by simp];clear hw2;obtain⟨N,hN,hNb⟩:∃N,(∀ts,toks t=some ts→ts.length=N)∧N≤1000000:=by
  refine⟨((toks t).getD []).length,fun ts h=>by rw[h];rfl,?_⟩;cases htk:toks t with
  | none=>exact Nat.zero_le _
  | some ts=>have:=(HPO.out ts htk).len;simp only[Option.getD_some];omega
 have hin0:DcIn t w.heap.size (w.heap.size+1) w.heap.size 0 N w2 (toks t):=by
  refine .inl ⟨rfl,hd2,⟨s,p,m,cp,hr2,HTS.out,⟨by omega,hm.1,hm.2.1,hm.2.2⟩,?_⟩,rfl,hN⟩;by_cases hm0:m=0
  ·exact .inl hm0
  ·obtain⟨d,o,e,hx⟩:=HC.out.resolve_left hm0
   obtain⟨c,T,fr,h1,h2⟩:=QiR hx hm0;have hlt:=Qad h1;exact .inr ⟨d,o,c,T,fr,e,by omega,by omega,(B2.block d hlt).trans h1,h2⟩
 have HQ:Hid (DaRel t w.heap.size (w.heap.size+1) N (Qit lx t) w2 (.slice none 0 0) w2):=by
  refine Hi ⟨w.heap.size,0,N+1,[],[],toks t,hin0,?_,fun vs h=>⟨by rw[hN vs h];omega,HPO.out vs h,by rw[hN vs h];simp⟩,Xb _,by omega,fun _=>⟨rfl,rfl⟩,fun h=>absurd rfl h,.refl _ _,_,_,rfl⟩;unfold Qit;cases htk:toks t with
  | none=>rfl
  | some ts=>simp only[Option.bind_some,hN ts htk]
 have HR2:=Hi hr2;have HB2:=Hi B2;clear hin0 hr2 hd2 B2 HC
 go_wp2_with fail
 go_loopw [4] (fun v4 wr=>DaRel t w.heap.size (w.heap.size+1) N (Qit lx t) w2 v4 wr) (fun _ wr=>mz (w.heap.size+1) wr)
 case atStart=>exact HQ.out
 case round =>
  clear HQ;obtain⟨bp0,base0,f,acc,cs,pend,hin,hres,hpv,hb0,hbd,hA,hB,hX,p4,c4,rfl⟩:=hrel;have hszr:=hX.size;have hblt:=hin.lt (by omega);have HIN:=Hi hin;have HPV:=Hi hpv;have HAB:=Hi (Xc hA hB);have HXR:=Hi hX;have HRS:=Hi hres;clear hin hpv hA hB hX hres
  go_upto_region 3 with(fail)
  refine Qba fun w3 hw3=>?_
  have B3:Below wr.heap.size wr w3:=hw3▸Qab wr _;have ht3:w3.heap[wr.heap.size]? =some (.cells pol0 102 (0,0)):=hw3▸Xa wr _;have hz3:w3.heap.size=wr.heap.size+1:=by rw[hw3];simp
  clear hw3;have X3:=HXR.out.trans (.below B3);have B03:Below w.heap.size w w3:=HB2.out.trans (X3.toBelow (fun d hd=>by omega) (by omega));have hE3:w3.cell? ⟨0,0,none⟩=some (.iface 346 (.pointer (some a0))):=(B03.cell (p:=⟨0,0,none⟩) (show 0<w.heap.size by omega)).trans HA0.out.1;have ha3:=(B03.cell hak).trans HA0.out.2.1;have hG3:Glob w3:=HA0.out.2.2.same (fun b hb=>B03.block b (by omega));have HIN3:=Hi (HIN.out.below B3)
  have HDEC:=Hi (dcd37 (K:=w.heap.size) HIN3.out (by omega) hG3 hE3 ht3 h15 (by omega) (by omega) hb0 hbd (by omega) (Xb _));have HT3:=Hi ht3;have HX3:=Hi X3;have HB03:=Hi B03;have HB3:=Hi B3;clear B3 ht3 X3 B03 hE3 ha3 hG3
  go_wp2_with fail
  refine HDEC.out.mono ?_;rintro e w5⟨X5,h5⟩;have B05:Below w.heap.size w w5:=HB03.out.trans (X5.toBelow (fun d hd=>by omega) (by omega));have hs5:=X5.size;have e05:w5.cell? ⟨0,0,none⟩=some (.iface 346 (.pointer (some a0))):=(B05.cell (p:=⟨0,0,none⟩) (show 0<w.heap.size by omega)).trans HA0.out.1;have a05:=(B05.cell hak).trans HA0.out.2.1;have HOW:Hid (∀b5,(bp0≠w.heap.size→b5=base0)→∃cs',w5.ownsRow b5 62 18 (.slice p4 acc.length c4) acc.length cs'∧PsRows w5 b5 cs' (acc.map Qb1)):=Hi (fun b5 hb5=>by
   by_cases hr:bp0=w.heap.size
   ·obtain⟨h1,h2⟩:=HAB.out.1 hr
    subst h1;cases h2;exact⟨[],⟨rfl,.inl ⟨rfl,rfl⟩⟩,⟨rfl,fun i a h=>by simp at h⟩⟩
   ·obtain⟨_,h2,h3⟩:=HAB.out.2 hr
    rw[hb5 hr];exact⟨cs,rows_dec HIN3.out ⟨_,HT3.out⟩ hr (Qb3 (S:=fun _=>False) h2 (.below HB3.out) (fun _ h=>h.elim)) (h3.after HB3.out) X5⟩)
  have HX5:=Hi X5;have HB5:=Hi B05;have HA5:=Hi a05;clear X5 B05 a05;rcases pend with _ | vs
  ·obtain⟨T,v,rfl⟩:=h5
   have hq:=err_eq (w:=w5) v.2 HA5.out hak;have HR:Hid (Qit lx t=none):=Hi HRS.out.symm
   go_wp2_with fail
   go_ret2
   rw[HR.out];exact⟨HB5.out,rfl⟩
  dsimp only at h5;have hvs:=HPV.out vs rfl;obtain⟨f,rfl⟩:∃g,f=g+1:=⟨f-1,by omega⟩
  have HSTEP:Hid (Qiu lx N (f+1) acc vs=Qit lx t):=Hi HRS.out;by_cases hE0:(ty vs==0)=true
  ·rw[if_pos hE0]at h5
   subst h5;have hq:=eof_eq a0 w5;have HR:Hid (Qit lx t=some acc):=Hi (by rw[←HSTEP.out,Qiu,if_pos hE0]);clear hE0
   go_wp2_with fail
   go_ret2
   rw[HR.out];obtain⟨b5,hb5,hb6⟩:∃b5,(bp0≠w.heap.size→b5=base0)∧w.heap.size≤b5:=by
    by_cases hr:bp0=w.heap.size
    ·exact⟨w.heap.size,fun h=>absurd hr h,Xb _⟩
    ·exact⟨base0,fun _=>rfl,Nat.le_of_lt (HAB.out.2 hr).1⟩
   obtain⟨cs',hO,hP⟩:=HOW.out b5 hb5;obtain⟨pA,cA,he,hrow⟩:=RwU.own hO;cases he;refine⟨HB5.out,p4,c4,rfl,cs',?_,?_⟩
   ·rw[List.length_map]
    exact hrow.mono (fun d hd=>by omega)
   ·intro i a hi
    exact(hP.2 i a hi).mono (fun d hd=>by omega)
  rw[if_neg hE0]at h5;cases hpm:Qa2 lx (expr lx N) vs with
  | none =>
   rw[hpm]at h5;obtain⟨T,v,rfl⟩:=h5;have hq:=err_eq (w:=w5) v.2 HA5.out hak;have HR:Hid (Qit lx t=none):=Hi (by rw[←HSTEP.out,Qiu,if_neg hE0,hpm]);clear hE0 hpm
   go_wp2_with fail
   go_ret2
   rw[HR.out];exact⟨HB5.out,rfl⟩
  | some r =>
   obtain⟨P,us⟩:=r;rw[hpm]at h5;obtain⟨rfl,bp,base,B,hbb,hd5,hps5,hB5,hpol⟩:=h5;have HR:Hid (Qiu lx N f (acc++[P]) us=Qit lx t):=Hi (by rw[←HSTEP.out,Qiu,if_neg hE0,hpm]);have hq:=run_eql_iface_nil_left (P:=prog) w5 346 (.pointer (some a0)) underlying104;have HPK:=Hi (QhY (QdZ N) (QhM (fun s p hs hp=>Qi9 hs hp) N) hvs.2.1 hpm);have hplt:=Qiy (QdZ N) hvs.2.1.wf hpm;have HGU:=Hi (Xc (hvs.2.1.sf hplt.1) (hplt.1.wf hvs.2.1.wf))
   have hul:=hplt.2;have hbse:=hps5.hbs;have hbpb:=hps5.hbp;have HDP:=Hi (Xc hd5 (Xc hps5 hpol));have HBB:=Hi hbb;have hbge:w.heap.size+2≤bp:=by rcases hbb with h | h<;>omega
   obtain⟨cs5,hO5,hP5⟩:=HOW.out base (fun hr=>by rcases hbb with h | h;exact h.2.1;exact absurd h.2 hr);have HOP:=Hi (Xc hO5 hP5);clear hd5 hps5 hpol hpm hE0 hplt hbb hO5 hP5
   go_wp2_with fail
   refine(QiA HPK.out w5 base B wr.heap.size 102 HDP.out.2.2).mono ?_;rintro e w6⟨B6,ds,hds,rfl⟩;have HDS:=Hi hds;have hl18:=hds.len;have hst:(storeCells ⟨w6.heap.size,0,none⟩ ds 0).run prog (w6.alloc (.cells pZero 62))=.ok () (w6.alloc (.cells ds.toArray 62)):=st18 w6 pZl ds rfl hl18 hds.one;have HB6:=Hi B6;have h1c:=hds.one;clear B6 hds hq e05
   go_upto_region 9 with(fail)
   refine QaB fun w7 hw7=>?_
   have B7:Below w6.heap.size w6 w7:=hw7▸Qab w6 _;have h7:w7.heap[w6.heap.size]? =some (.cells ds.toArray 62 (0,0)):=hw7▸Xa w6 _;clear hw7 hst;have hld:=ldv18 w7 w6.heap.size ds 62 (0,0) hl18 h7;have hbs:=bs18 w7 ds hl18;have HB7:=Hi B7;have hz7:=B7.size;have hz6:=HB6.out.size;clear B7 h7
   go_upto_region 11 with(fail)
   have HO7:=Qb3 (S:=fun _=>False) HOP.out.1 (.below (HB6.out.trans (HB7.out.mono hz6))) (fun _ h=>h.elim);refine wp_region_list ?_;refine QiB rfl _ rfl ?_;refine QiC rfl 62 _ rfl (.pointer (some ⟨w6.heap.size,0,none⟩)) _ rfl hld ?_;refine wpl_bs rfl 40 1 _ rfl #[(0,.agg ds.toArray)] (by kernel_rfl) _ _ hbs ?_;refine appG sl40 rfl _ _ rfl base _ _ _ rfl (Qbs HO7 _) w7.heap.size ds (by rw[hl18]) rfl (fun j u hj=>Qaa (Xa w7 _) (by simpa using hj)) h1c (by unfold maxLen;omega) (by omega) (by simp;omega) ?_
   intro v9 w9 hO9 hg9 _;have hO8:=Qbs HO7 (.cells ds.toArray 62);have B8:Below w6.heap.size w6 (w7.alloc (.cells ds.toArray 62)):=HB7.out.trans ((Qab w7 _).mono hz7);have hP9:=QiS HOP.out.1 HOP.out.2 HB6.out HDS.out B8 hbse hg9;have B58:=HB6.out.trans (B8.mono hz6);have hd9:=QaL ((B58.block _ (Qad HDP.out.1)).trans HDP.out.1) hO8 hg9 (show w.heap.size+1<base by omega);have hp9:=(HDP.out.2.1.below B58).grow hO8 hg9 (Xb _)
   have X9:=((HX3.out.trans' HX5.out (fun d hd=>by omega)).trans (.below B58)).grow hO8 hg9 (by omega);obtain⟨p9,c9,rfl,_⟩:=RwU.own hO9;have HEND:Hid (DaRel t w.heap.size (w.heap.size+1) N (Qit lx t) w2 (.slice p9 (acc.length+1) c9) w9):=Hi ⟨bp,base,f,acc++[P],cs5++ds,some us,.inr ⟨us,rfl,hd9,hp9,HGU.out.2,by omega,by omega⟩,HR.out,fun vs' h=>by cases h;exact⟨by omega,HGU.out.1,by simp;omega⟩,by omega,by omega,fun h=>absurd h (by omega),fun _=>⟨by omega,by simpa using hO9,by simpa using hP9⟩,X9,p9,c9,by simp⟩
   have HMZ:Hid (mz (w.heap.size+1) w9<mz (w.heap.size+1) wr):=Hi (by
    have h1:mz (w.heap.size+1) w9=us.length:=by
     unfold mz;rw[Qaa (o:=1) hd9 rfl];exact hp9.left
    have h2:=HIN.out.mz (show vs.length≤1000000 by omega);omega)
   clear hO9 hg9 HO7 hO8 B8 hP9 B58 hd9 hp9 X9 hld hbs hl18 h1c
   go_wp2_with fail
   go_roundw
   case rel=>exact HEND.out
   case measure=>exact HMZ.out
end Go.Proofs.Pg
