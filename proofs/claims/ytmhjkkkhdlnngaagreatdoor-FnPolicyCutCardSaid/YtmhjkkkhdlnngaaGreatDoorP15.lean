/- FnPolicyCut, part 15. -/
import Derived.Test.YtmhjkkkhdlnngaaGreatDoorP12
import Derived.Test.YtmhjkkkhdlnngaaGreatDoorP13
import Derived.Deep.CutBlock
import Derived.Deep.RegionHeld3
set_option linter.all false
set_option maxRecDepth 100000
set_option maxHeartbeats 0
namespace Go.Proofs.Pg
open Go.RowKit Go.Proofs.Tryz
attribute [local go_sem] Oper.semAt_some
variable {t:List UInt8}{r:Rdr}{lo b q:Nat}{σ:Sc}{w w':World}{F:Fd}{tb:List UInt8}{off pos en:Nat}
theorem Qbg{S:Nat→Prop}(h:Lib.Utf8Tabs 1 2 w)(he:Ext S w w')(h1:¬S 1)(h2:¬S 2):Lib.Utf8Tabs 1 2 w' :=
 ⟨fun c hc=>he.cell (p:=⟨1,c,none⟩) h1 (h.1 c hc),fun i hi=>⟨he.cell (p:=⟨2,_,none⟩) h2 (h.2 i hi).1,he.cell (p:=⟨2,_,none⟩) h2 (h.2 i hi).2⟩⟩
theorem SWX.moveE(X:SWX t r lo b σ q w F tb off pos en){σ':Sc}{q':Nat}{F':Fd}{tb':List UInt8}{off' pos' en':Nat}(h:Sn w' lo b F' tb')(he:Ext (fun d=>lo≤d) w w')(wf:SWF t r σ' q' F' tb' off' pos' en')(hen:off'+en'=off+en)(hk:σ'.er=true→∃T p,F'.er=.iface T p∧EIs r.rb w' T p) :
  SWX t r lo b σ' q' w' F' tb' off' pos' en':=by
 obtain⟨a,ha⟩:=X.eof;have h15:=X.h15;exact⟨h,wf,hen▸X.law.keep _ _ _ X.rd he,Qbg X.tabs he (by omega) (by omega),⟨a,he.cell (p:=⟨0,0,none⟩) (show ¬lo≤0 by omega) ha⟩,Xe X.hlo he.size,X.h15,X.hlen,X.law,hk⟩
theorem SWX.move(X:SWX t r lo b σ q w F tb off pos en){σ':Sc}{q':Nat}{F':Fd}{tb':List UInt8}{off' pos' en':Nat}(h:Sn w' lo b F' tb')(he:Ext (fun d=>lo≤d) w w')(wf:SWF t r σ' q' F' tb' off' pos' en')(hen:off'+en'=off+en)(hk:σ'.er=true→σ.er=true∧F'.er=F.er:=by exact fun h=>⟨h,rfl⟩) :
  SWX t r lo b σ' q' w' F' tb' off' pos' en':=X.moveE h he wf hen fun h=>by
 obtain⟨h1,h2⟩:=hk h;obtain⟨T,p,e,hp⟩:=X.erk h1;exact⟨T,p,h2.trans e,hp.ok he.ok⟩
theorem Fr.of_b{rb b lo:Nat}{x y:World}(h:Ext (fun d=>d=b) x y):Fr rb b lo x y:=h.mono fun d hd=>.inr (.inl hd)
theorem Qc8{b lo:Nat}{x y:World}(h:Ext (fun d=>d=b) x y)(hb:lo≤b):Ext (fun d=>lo≤d) x y:=h.mono fun d hd=>by subst hd;exact hb
theorem SWF.adv(X:SWF t r σ q F tb off pos en)(wd:Nat)(h1:pos+wd≤en)(c l3 l4 te l3' l4':Int)(a3:l3=l3')(a4:l4=l4')(er:Bool)(ev:Value)(e0:er=false→ev=.nilIface)(e1:er=true→∃T p,ev=.iface T p) :
  SWF t r {σ with p:=σ.p+wd,lcl:=wd,col:=c,lll:=l3',ln:=l4',er:=er} wd {F with pos:=(pos:Int)+(wd:Int),lcl:=wd,col:=c,lll:=l3,ln:=l4,er:=ev,te:=te} tb off (pos+wd) en where
 fsrc:=X.fsrc
 fpos:=by simp
 fen:=X.fen
 foff:=X.foff
 le1:=h1
 le2:=X.le2
 hp:=by have:=X.hp;simp only;omega
 len:=X.len
 buf:=X.buf
 sen:=X.sen
 fln:=a4
 fcol:=rfl
 flll:=a3
 flcl:=rfl
 lcle:=by omega
 er0:=e0
 er1:=e1
 fch:=X.fch
 fpf:=X.fpf
 fpo:=X.fpo
 fpl:=X.fpl
 fpc:=X.fpc
 tok:=by
  have h:=X.tok;show tokF t off (pos+wd) wd F.tp tb σ.ts;cases hs:σ.ts with
  | none=>rw[hs]at h;exact h
  | some s =>
   rw[hs]at h;obtain⟨k,a,b,c,d⟩:=h;exact⟨k,a,by omega,c,d⟩
theorem SWF.here(X:SWF t r σ q F tb off pos en)(h:pos<en):F.buf pos=t.getD σ.p 0:=by rw[X.buf pos h,X.hp]
theorem QbA(l:List UInt8)(p k:Nat):(l.drop p).getD k 0=l.getD (p+k) 0:=by
 rw[List.getD_eq_getElem?_getD,List.getD_eq_getElem?_getD,List.getElem?_drop]
theorem dec_big{l:List UInt8}(h0:l≠[])(h:128≤(l.getD 0 0).toNat):128≤(dec l).1:=by
 have hl:0<l.length:=List.length_pos_iff.2 h0;unfold dec;rw[if_neg (by omega)];unfold Lib.decodeN;rw[if_neg (by omega)]
 repeat' split
 all_goals(simp only;omega)
theorem SWX.bytes(X:SWX t r lo b σ q w F tb off pos en):BytesAt w b (1+pos) ((t.drop σ.p).take (en-pos)):=by
 intro j hj;have hp:=X.wf.hp;have h2:=X.wf.le2;have hj':j<en-pos:=by rw[List.length_take]at hj;omega
 rw[show 1+pos+j=1+(pos+j)by omega,X.sn.bufAt (pos+j) (by omega),X.wf.buf (pos+j) (by omega),List.getD_eq_getElem?_getD (l:=List.take _ _),List.getElem?_take_of_lt hj',←List.getD_eq_getElem?_getD (l:=List.drop _ _),QbA,show off+(pos+j)=σ.p+j by omega]
theorem SWX.len(X:SWX t r lo b σ q w F tb off pos en):((t.drop σ.p).take (en-pos)).length=en-pos:=by
 have hp:=X.wf.hp;have h2:=X.wf.len;have h1:=X.wf.le1;rw[List.length_take,List.length_drop];omega
theorem Qhi(X:SWX t r lo b σ σ.lcl w F tb off pos en)(hlt:pos<en)(hx:(t.getD σ.p 0).toNat<128):Calls prog 121 #[.pointer (some ⟨b,0,none⟩)] w (Qdd t r lo b σ w):=by
 have hpl:¬t.length≤σ.p:=by have:=X.wf.hp;have:=X.wf.len;omega
 have hne:t.drop σ.p≠[]:=by intro e;have:=congrArg List.length e;rw[List.length_drop]at this;simp at this;omega
 have hd:dec (t.drop σ.p)=((t.getD σ.p 0).toNat,1):=by
  have:=Qe0 hne (by rw[QbA];exact hx);rw[QbA]at this;exact this
 have hw4:=X.wf.le2;have h:=X.sn;have hblt:=h.lt;have c0:=h.c_pos;have c1:=h.c_lcl;have c2:=h.c_col;have c3:=h.c_lll;have c4:=h.c_ln;have c5:=h.bufAt pos (by omega);have f1:=h.free 1026;have f2:=h.free 1032;have f3:=h.free 1030;have f4:=h.free 1031;have f5:=h.free 1029;have hb1:pos<1025:=by omega
 have hb2:(pos:Int)<1025:=by omega
 have hblo:=h.hlo;rw[X.wf.fpos]at c0;rw[X.wf.here hlt]at c5;have hcol:=X.wf.fcol;have hln:=X.wf.fln;have hlll:=X.wf.flll;rw[hcol]at c2;rw[hln]at c4;have er0:=X.wf.er0;have er1:=X.wf.er1;have H:=Hi h;have HX:=Hi X;have HL:=Hi hlt;have HE0:=Hi er0;have HE1:=Hi er1;have HC:Hid (F.col=σ.col∧F.ln=σ.ln∧F.lll=σ.lll):=Hi ⟨hcol,hln,hlll⟩;unfold Qdd;have en1:nxt t σ=if(t.getD σ.p 0).toNat=0 then(0,{σ with p:=σ.p+1,lcl:=1,col:=wrap64 (σ.col+1),er:=true})else if(t.getD σ.p 0).toNat=10 then(10,{σ with p:=σ.p+1,lcl:=1,lll:=wrap64 (σ.col+1),col:=0,ln:=wrap64 (σ.ln+1)})else(((t.getD σ.p 0).toNat:Int),{σ with p:=σ.p+1,lcl:=1,col:=wrap64 (σ.col+1)}):=by
  unfold nxt;rw[if_neg hpl,hd,if_neg (by simp only;omega)]
 clear hd hne hpl h X hlt er0 er1 hcol hln hlll;generalize t.getD σ.p 0=x at *;have hl:x.toNat<256:=x.toNat_lt;have hx':(x.toNat:Int)<128:=by omega
 by_cases h0:x.toNat=0
 ·rw[en1,if_pos h0]
  have HN:=Hi h0;rw[h0]at c5;clear en1 h0 hx hx';go_enter func121,ntmps121;go_wp2
  go_quiet (fail)
  go_wp2_with fail
  refine(Qec (((H.out.drewN _).s_pos _).s_lcl _ |>.s_col _) _ (by have:=HX.out.hlo;simpa [World.setCell]using this)).mono ?_;rintro e w2⟨rfl,⟨x2,T,p2,hS⟩,hE⟩;have HS:=Hi hS;clear hS;have HE:=Hi hE;clear hE;go_wp2;go_ret;refine⟨rfl,⟨_,_,_,_,_,HX.out.moveE HS.out ?_ (HX.out.wf.adv 1 (by have:=HL.out;omega) _ F.lll F.ln _ _ _ HC.out.2.2 HC.out.2.1 true (.iface T p2.1) (fun h=>by cases h) (fun _=>⟨_,_,rfl⟩)) rfl (fun _=>⟨_,_,rfl,p2.2.mono (Nat.le_of_lt HX.out.law.hrb)⟩)⟩,?_⟩
  ·exact(((((Ext.refl _ _).drewN _).set (.inl hblo) _).set (.inl hblo) _).set (.inl hblo) _).trans (Qc8 HE.out hblo)
  ·exact(((((Fr.refl _ _ _ _).drewN _).set _ _).set _ _).set _ _).trans (Fr.of_b HE.out)
 ·by_cases h1:x.toNat=10
  ·rw[en1,if_neg h0,if_pos h1]
   have HN:=Hi h1;rw[h1]at c5;clear en1 h0 h1 hx hx';go_enter func121,ntmps121;go_wp2
   go_quiet (fail)
   go_wp2_with fail
   go_ret;refine⟨rfl,⟨_,_,_,_,_,HX.out.move (((((H.out.drewN _).s_pos _).s_lcl _ |>.s_col _).s_ln _).s_lll _ |>.s_col _) ?_ (HX.out.wf.adv 1 (by have:=HL.out;omega) 0 (wrap64 (σ.col+1)) (wrap64 (σ.ln+1)) _ _ _ rfl rfl σ.er F.er HE0.out HE1.out) rfl⟩,?_⟩
   ·exact((((((((Ext.refl _ _).drewN _).set (.inl hblo) _).set (.inl hblo) _).set (.inl hblo) _).set (.inl hblo) _).set (.inl hblo) _).set (.inl hblo) _)
   ·exact((((((((Fr.refl _ _ _ _).drewN _).set _ _).set _ _).set _ _).set _ _).set _ _).set _ _)
  ·rw[en1,if_neg h0,if_neg h1]
   have n0:((x.toNat:Int)==0)=false:=by simpa using h0
   have n1:((x.toNat:Int)==10)=false:=by simp;omega
   clear en1 hx;go_enter func121,ntmps121;go_wp2
   go_quiet (fail)
   go_wp2_with fail
   go_ret;refine⟨rfl,⟨_,_,_,_,_,HX.out.move (((H.out.drewN _).s_pos _).s_lcl _ |>.s_col _) ?_ (HX.out.wf.adv 1 (by have:=HL.out;omega) _ F.lll F.ln _ _ _ HC.out.2.2 HC.out.2.1 σ.er F.er HE0.out HE1.out) rfl⟩,?_⟩
   ·exact(((((Ext.refl _ _).drewN _).set (.inl hblo) _).set (.inl hblo) _).set (.inl hblo) _)
   ·exact(((((Fr.refl _ _ _ _).drewN _).set _ _).set _ _).set _ _)
variable {t:List UInt8}{r:Rdr}{lo b q:Nat}{σ:Sc}{w w':World}{F:Fd}{tb:List UInt8}{off pos en:Nat}
def gap(n b:Nat)(w:World):Nat:=match w.cell? ⟨b,1027,none⟩,w.cell? ⟨b,1028,none⟩with
 | some (.int _ e),some (.int _ o)=>n-(o+e).toNat
 | _,_=>0
theorem SWX.gap(X:SWX t r lo b σ q w F tb off pos en):gap t.length b w=t.length-(off+en):=by
 unfold Pg.gap;rw[X.sn.c_en,X.sn.c_off,X.wf.fen,X.wf.foff];show t.length-((off:Int)+(en:Int)).toNat=_;omega
def LpR(t:List UInt8)(r:Rdr)(lo b:Nat)(σ:Sc)(w wr:World):Prop:=∃F tb off pos en,SWX t r lo b σ 0 wr F tb off pos en∧Fr r.rb b lo w wr
def MidR(t:List UInt8)(r:Rdr)(lo b:Nat)(σ:Sc)(w wr:World):Prop:=∃F tb off pos en,SWX t r lo b σ 0 wr F tb off pos en∧Fr r.rb b lo w wr∧pos<en∧dec ((t.drop σ.p).take (en-pos))=dec (t.drop σ.p)
theorem SWX.zero(X:SWX t r lo b σ q w F tb off pos en):SWX t r lo b σ 0 w F tb off pos en:=by
 have h:=X.wf.tok;have hl:=X.wf.lcle;refine⟨X.sn,{X.wf with lcle:=Nat.zero_le _,tok:=?_},X.rd,X.tabs,X.eof,X.hlo,X.h15,X.hlen,X.law,X.erk⟩;cases hs:σ.ts with
 | none=>rw[hs]at h;exact h
 | some s =>
  rw[hs]at h;obtain⟨k,a,b,c,d⟩:=h;exact⟨k,a,by omega,c,d⟩
theorem SWX.drewN(X:SWX t r lo b σ q w F tb off pos en)(n:Nat):SWX t r lo b σ q (w.drewN n) F tb off pos en :=
 X.move X.sn ((Ext.refl _ _).drewN n) X.wf rfl
structure NK(w0:World)(b x y:Nat)(u v:Value)(w:World):Prop where
 a:w0.cell? ⟨b,x,none⟩=some u
 c:w0.cell? ⟨b,y,none⟩=some v
 e:Ext (fun _=>False) w0 w
theorem NK.drew{w0 w:World}{b x y:Nat}{u v:Value}(h:NK w0 b x y u v w):NK w0 b x y u v w.drew:=⟨h.a,h.c,h.e.drew⟩
theorem NK.all{w0 w:World}{b x y:Nat}{u v:Value}(h:NK w0 b x y u v w):w.cell? ⟨b,x,none⟩=some u∧w.cell? ⟨b,y,none⟩=some v∧NK w0 b x y u v w:=⟨h.e.cell (p:=⟨b,x,none⟩) (fun h=>h) h.a,h.e.cell (p:=⟨b,y,none⟩) (fun h=>h) h.c,h⟩
theorem NK.next{w0 w w':World}{b x y:Nat}{u v:Value}(h:NK w0 b x y u v w)(hb:Below w.heap.size w w'):NK w0 b x y u v w':=⟨h.a,h.c,h.e.trans (.below hb)⟩
theorem NK.below{w0 w:World}{b x y:Nat}{u v:Value}(h:NK w0 b x y u v w):Below w0.heap.size w0 w:=h.e.toBelow (fun d h=>h.elim) (Xb _)
theorem Qhl(h:¬t.length≤σ.p){d:Nat×Nat}(hd:dec (t.drop σ.p)=d):nxt t σ =
  if d.1=65533∧d.2=1 then((65533:Int),{σ with p:=σ.p+1,lcl:=1,col:=wrap64 (σ.col+1),er:=true})
  else if d.1=0 then(0,{σ with p:=σ.p+d.2,lcl:=d.2,col:=wrap64 (σ.col+1),er:=true})
  else if d.1=10 then(10,{σ with p:=σ.p+d.2,lcl:=d.2,lll:=wrap64 (σ.col+1),col:=0,ln:=wrap64 (σ.ln+1)})
  else((d.1:Int),{σ with p:=σ.p+d.2,lcl:=d.2,col:=wrap64 (σ.col+1)}):=by
 subst hd;unfold nxt;rw[if_neg h]
theorem nxt_end(h:t.length≤σ.p):nxt t σ=(-1,{σ with col:=if 0<σ.lcl then wrap64 (σ.col+1)else σ.col,lcl:=0}):=by
 unfold nxt;rw[if_pos h]
def WrR(t:List UInt8)(r:Rdr)(lo b:Nat)(σ:Sc)(w0:World)(F:Fd)(off pos:Nat)(wx:World):Prop :=
 ∃x tb',Sn wx lo b {F with tp:=x} tb'∧tokF t (off+pos) 0 0 x tb' σ.ts∧Below lo w0 wx∧Fr r.rb b lo w0 wx
theorem Qhm(t:List UInt8)(s m n:Nat)(h:s+m+n≤t.length):(t.drop s).take m++(List.range n).map (fun j=>t.getD (s+m+j) 0)=(t.drop s).take (m+n):=by
 refine List.ext_getElem? fun i=>?_
 by_cases h1:i<m
 ·rw[List.getElem?_append_left (by rw[List.length_take,List.length_drop];omega),List.getElem?_take_of_lt h1,List.getElem?_take_of_lt (by omega)]
 ·have hl:((t.drop s).take m).length=m:=by rw[List.length_take,List.length_drop];omega
  rw[List.getElem?_append_right (by omega),hl,List.getElem?_map];by_cases h2:i<m+n
  ·rw[List.getElem?_take_of_lt h2,List.getElem?_drop,List.getElem?_range (by omega)]
   show some (t.getD (s+m+(i-m)) 0)=_;rw[show s+m+(i-m)=s+i by omega,List.getD_eq_getElem?_getD,List.getElem?_eq_getElem (show s+i<t.length by omega)];rfl
  ·rw[List.getElem?_eq_none (by rw[List.length_range];omega),List.getElem?_eq_none (by rw[List.length_take];omega)]
   rfl
theorem QdM{b:Nat}(w:World)(cs:Array Value){c:Array Value}{T:TypeId}{fr:Nat×Nat}(hb:w.heap[b]? =some (.cells c T fr))(hT:T≠348):Ext (fun d=>d=b) w (w.setRow b cs) :=
 ⟨rfl,rfl,rfl,by simp,fun d hd hn=>setRow_other _ _ _ _ hn,fun d ⟨u,hu⟩=>⟨u,(setRow_other _ _ _ _ (fun e=>by subst e;rw[hb]at hu;cases hu;exact hT rfl)).trans hu⟩⟩
theorem Sn.ext{S:Nat→Prop}(h:Sn w lo b F tb)(he:Ext S w w')(hs:∀d,S d→d<lo):Sn w' lo b F tb:=by
 have hblt:=h.lt;obtain⟨hB,v,lr,h3,hown,hne⟩:=h;exact⟨hB,v,lr,h3.of_heap (he.block b hblt (fun e=>by have:=hs b e;omega)),Qdj hown he (fun d hd=>.inl (hs d hd)),hne⟩
theorem eof_neq(a:Addr)(w:World):(binOp .neq 104 (.iface 346 (.pointer (some a))) (.iface 346 (.pointer (some a)))).run prog w=.ok (.bool false) w:=by
 have h1:(prog.info? 346).map (·.comparable)=some true:=by kernel_rfl
 have h2:(prog.info? 348).map (·.comparable)=some true:=by kernel_rfl
 obtain⟨i,hi⟩:∃i,prog.info? 346=some i∧i.comparable=true:=by
  cases h:prog.info? 346 with
  | none=>rw[h]at h1;cases h1
  | some i=>rw[h]at h1;exact⟨i,rfl,Xd h1⟩
 obtain⟨j,hj⟩:∃j,prog.info? 348=some j:=by
  cases h:prog.info? 348 with
  | none=>rw[h]at h2;cases h2
  | some i=>exact⟨i,rfl⟩
 simp only[binOp];simp[Op.equal,Op.maxDepth,run_equalIn_iface_ptr_same w 9998 a underlying104 underlying346 hi.1 hi.2 hj]
theorem SWF.fresh(X:SWF t r σ q F tb off pos en){bf:Nat→UInt8}{i:Nat}{x ep ee eo cF lF:Int}{cS:Int}{lS:Nat}{tb':List UInt8}(hbf:∀j,j<i→bf j=t.getD (σ.p+j) 0)(hs:bf i=128)(hi:i≤1024)(hl:σ.p+i≤t.length)(ht:tokF t (off+pos) 0 0 x tb' σ.ts)
  (h1:ep=0)(h2:ee=i)(h3:eo=(off:Int)+(pos:Int))(h4:cF=cS)(h5:lF=lS):SWF t r {σ with col:=cS,lcl:=lS} 0 {F with tp:=x,buf:=bf,off:=eo,pos:=ep,en:=ee,col:=cF,lcl:=lF} tb' (off+pos) 0 i where
 fsrc:=X.fsrc
 fpos:=h1
 fen:=h2
 foff:=by rw[h3];push_cast;rfl
 le1:=Nat.zero_le _
 le2:=hi
 hp:=X.hp
 len:=by have:=X.hp;omega
 buf:=fun j hj=>by have:=X.hp;rw[this];exact hbf j hj
 sen:=hs
 fln:=X.fln
 fcol:=h4
 flll:=X.flll
 flcl:=h5
 lcle:=Nat.zero_le _
 er0:=X.er0
 er1:=X.er1
 fch:=X.fch
 fpf:=X.fpf
 fpo:=X.fpo
 fpl:=X.fpl
 fpc:=X.fpc
 tok:=ht
def FulQ(t:List UInt8)(σ:Sc)(n:Nat)(e:Ending):Prop:=∃r:Bool,e=.returned (.bool r)∧(r=true→0<n∧dec ((t.drop σ.p).take n)=dec (t.drop σ.p))
def TstR(t:List UInt8)(r:Rdr)(lo b:Nat)(σ:Sc)(w:World)(F:Fd)(tb:List UInt8)(off pos en:Nat)(s:Value)(wx:World):Prop :=
 ∃bb:Bool,s=.bool bb∧SWX t r lo b σ 0 wx F tb off pos en∧Fr r.rb b lo w wx∧(bb=false→pos<en∧dec ((t.drop σ.p).take (en-pos))=dec (t.drop σ.p))∧(bb=true→en<pos+4)
theorem Qe2(X:SWX t r lo b σ σ.lcl w F tb off pos en)(hx:128≤(F.buf pos).toNat):Calls prog 121 #[.pointer (some ⟨b,0,none⟩)] w (Qdd t r lo b σ w):=by
 have hw4:=X.wf.le2;have hw5:=X.wf.le1;have h:=X.sn;have hblt:=h.lt;have c0:=h.c_pos;have c5:=h.bufAt pos (by omega);have hb1:pos<1025:=by omega
 have hb2:(pos:Int)<1025:=by omega
 rw[X.wf.fpos]at c0;have HX:=Hi X;clear h X;generalize hxe:F.buf pos=x at *;have HXE:=Hi hxe;clear hxe;have hl:x.toNat<256:=x.toNat_lt;have hx':(128:Int)≤(x.toNat:Int):=by omega
 go_enter func121,ntmps121;go_wp2
 go_quiet (fail)
 go_upto_block 0 with(fail)
 obtain⟨w1,hw1⟩:∃w1,w.drewN nq=w1:=⟨_,rfl⟩
 rw[hw1];have HL:Hid (LpR t r lo b σ w w1):=Hi (hw1▸⟨F,tb,off,pos,en,HX.out.zero.drewN nq,(Fr.refl _ _ _ _).drewN nq⟩);clear hw1 c0 c5
 go_cut [5] (fun _ wx=>MidR t r lo b σ w wx)
 case first =>
  go_wp2_with fail
  go_loopw [5] (fun _ wr=>LpR t r lo b σ w wr) (fun _ wr=>gap t.length b wr)
  case atStart=>exact HL.out
  case round =>
   clear HX HXE HL;obtain⟨F,tb,off,pos,en,X,hF⟩:=hrel;have hw4:=X.wf.le2;have hple:=X.wf.le1;have h:=X.sn;have hblt:=h.lt;have c0:=h.c_pos;have c00:=h.c_en;have hblo:=h.hlo;rw[X.wf.fpos]at c0;rw[X.wf.fen]at c00;have H:=Hi h;have HX:=Hi X;have HF:=Hi hF;clear h X hF hw5 hb1 hb2 hx hl hx'
   go_upto_region 3 with(fail)
   go_cut [45] (fun s wx=>TstR t r lo b σ w F tb off pos en s wx)
   case first =>
    as_aux_lemma =>
    have hle:(pos:Int)≤(en:Int):=by omega
    have hle2:(en:Int)≤1025:=by omega
    have hle3:en≤1025:=by omega
    have hnc:¬1025=pos:=by omega
    have hk1:=c0;have hk2:=c00;have HK0:NK wr b 1026 1027 (.int .i64 pos) (.int .i64 en) wr:=⟨c0,c00,Ext.refl _ _⟩;by_cases hm:en<pos+4
    ·have hm':decide ((en:Int)<(pos:Int)+4)=true:=decide_eq_true (by omega)
     have hm2:(en:Int)<(pos:Int)+4:=by omega
     have hwr:IntKind.i64.wrap ((pos:Int)+4)=(pos:Int)+4:=IntWalk.i64_in _ (by omega);have HD2:Hid (∀cap W,NK wr b 1026 1027 (.int .i64 pos) (.int .i64 en) W→Calls prog 158 #[.slice (some ⟨b,1+pos,none⟩) (en-pos) cap] W fun e w'=>FulQ t σ (en-pos) e∧Below W.heap.size W w'):=Hi fun cap W hW=>by
      by_cases he:pos=en
      ·have:=Qhg (some ⟨b,1+pos,none⟩) cap W
       rw[show 0=en-pos by omega]at this;refine this.mono ?_;rintro e w'⟨rfl,rfl⟩;exact⟨⟨false,rfl,fun h=>by cases h⟩,Below.refl _ _⟩
      have h15:=HX.out.h15;have:=Qhh ((t.drop σ.p).take (en-pos)) b (1+pos) cap W (Qbg HX.out.tabs hW.e (fun h=>h) (fun h=>h)) (fun j hj=>hW.e.cell (p:=⟨b,_,none⟩) (fun h=>h) (HX.out.bytes j hj)) (Nat.lt_of_lt_of_le hblt hW.e.size) (by rw[HX.out.len];omega);rw[HX.out.len]at this;refine this.mono ?_;rintro e w'⟨⟨rr,rfl,hst⟩,hB⟩;exact⟨⟨rr,rfl,fun hr=>⟨by omega,by
       have:=QdL (l:=(t.drop σ.p).take (en-pos)) (m:=(t.drop σ.p).drop (en-pos)) (by intro e;have:=congrArg List.length e;rw[HX.out.len]at this;simp at this;omega) (by rw[HX.out.len];exact hst hr);rw[List.take_append_drop]at this;exact this.symm⟩⟩,hB⟩
     refine QaK 23 (by kernel_rfl) (by kernel_rfl) ?_;simp only[List.take_succ_cons,List.take_zero,List.drop_succ_cons,List.drop_zero]
     repeat still_step
     refine wpStill_nil ?_;clear hwr
     go_wp2_with fail
     refine(HD2.out _ _ HK0.drew).mono ?_;rintro e w3⟨⟨rr,rfl,hst⟩,hB⟩;have hqk:=NK.next HK0.drew hB;have h3:=H.out.old hqk.below;have X3:=HX.out.move h3 (hqk.e.mono fun _ h=>h.elim) HX.out.wf rfl;have F3:=HF.out.trans (Fr.below (rb:=r.rb) (b:=b) (lo:=lo) hqk.below);have HST:=Hi hst;clear hst;have HX3:=Hi X3;clear X3;have HF3:=Hi F3;clear F3 h3 hqk hB
     go_wp2_with fail
     go_meet
     refine⟨!rr,rfl,HX3.out,HF3.out,fun hr=>?_,fun _=>hm⟩;have hr':rr=true:=by simpa using hr
     obtain⟨h1,h2⟩:=HST.out hr';exact⟨by omega,h2⟩
    ·have hm':decide ((en:Int)<(pos:Int)+4)=false:=decide_eq_false (by omega)
     go_quiet (fail)
     go_wp2_with fail
     go_meet
     refine⟨false,rfl,HX.out.drewN _,HF.out.trans ((Fr.refl _ _ _ _).drewN _),fun _=>⟨by omega,?_⟩,fun h=>by cases h⟩;have:=dec_long (l:=(t.drop σ.p).take (en-pos)) (m:=(t.drop σ.p).drop (en-pos)) (by rw[HX.out.len];omega);rw[List.take_append_drop]at this;exact this.symm
   case rest =>
    obtain⟨bb,rfl,X2,hF2,hbb,hb3⟩:=hcut;cases bb with
    | false =>
     obtain⟨hlt,hd⟩:=hbb rfl
     go_wp2_with fail
     go_meet
     exact⟨F,tb,off,pos,en,X2,hF2,hlt,hd⟩
    | true =>
     clear hbb;have hm4:=hb3 rfl;clear hb3;have h:=X2.sn;have hblt2:=h.lt;have c0:=h.c_pos;have c1:=h.c_tp;have f1:=h.free 1036;rw[X2.wf.fpos]at c0;have H2:=Hi h;have HX2:=Hi X2;have HF2:=Hi hF2;have HGP:=Hi HX.out.gap;clear h X2 hF2 H HX HF
     go_upto_region 4 with(fail)
     obtain⟨w4,hw4e⟩:∃w4,w4=wc:=⟨_,rfl⟩
     subst hw4e
     go_cut [50] (fun s wx=>s=.bool σ.ts.isSome∧wx=w4)
     case first =>
      have htok:=HX2.out.wf.tok;cases hs:σ.ts with
      | none =>
       rw[hs]at htok;have htp:F.tp=-1:=htok;have HS:=Hi hs;clear hs htok;rw[htp]at c1;clear htp
       go_wp2_with fail
       go_meet
       exact⟨by rw[HS.out];rfl,rfl⟩
      | some s =>
       rw[hs]at htok;obtain⟨k,hk,hkp,hsk,htb⟩:=htok;have HS:=Hi hs;clear hs htb;rw[hk]at c1;clear hk
       go_wp2_with fail
       go_meet
       exact⟨by rw[HS.out];rfl,rfl⟩
     case rest =>
     obtain⟨rfl,hwx⟩:=hcut;have hwx':=hwx.symm;subst hwx';clear hwx
     go_upto_if 50 with(fail)
     go_cut [66] (fun _ wx=>WrR t r lo b σ w4 F off pos wx)
     case first =>
      as_aux_lemma =>
      have htok:=HX2.out.wf.tok;cases hs:σ.ts with
      | none =>
       rw[hs]at htok;have htp:F.tp=-1:=htok;have HS:=Hi hs;clear hs htok;have HT:=Hi htp;clear htp
       go_wp2_with fail
       go_meet
       exact⟨F.tp,tb,H2.out,by rw[HS.out];exact HT.out,Below.refl _ _,Fr.refl _ _ _ _⟩
      | some s =>
       rw[hs]at htok;obtain⟨k,hk,hkp,hsk,htb⟩:=htok;have HS:=Hi hs;clear hs;have HT:=Hi htb;clear htb;rw[hk]at c1;clear hk;have g1:(k:Int)≤(pos:Int):=by omega
       have g2:(pos:Int)≤1025:=by omega
       have g3:k≤pos:=by omega
       have g4:pos≤1025:=by omega
       have g5:¬1025=k:=by omega
       go_wp2_with fail
       refine QaK 15 (by kernel_rfl) (by kernel_rfl) ?_;simp only[List.take_succ_cons,List.take_zero,List.drop_succ_cons,List.drop_zero]
       repeat still_step
       refine wpStill_nil ?_
       go_wp2_with fail
       have hlim:tb.length+(pos-k)≤1000000:=by
        have h1:=HX2.out.hlen;have h2:=HX2.out.wf.len;have h3:=congrArg List.length HT.out;rw[List.length_take,List.length_drop]at h3;omega
       refine(Qhf H2.out.drew k (pos-k) _ (by omega) hlim HX2.out.hlo).mono ?_;rintro e w3⟨rfl,hS,hB,hK⟩;have hlt3:=hS.lt;have d1:=hS.c_tp;have e1:=hS.free 1036;have HS3:=Hi hS;clear hS;have HB3:=Hi hB;clear hB;have HK3:=Hi hK;clear hK
       go_wp2_with fail
       go_meet
       refine⟨0,_,HS3.out.s_tp 0,?_,?_,?_⟩
       ·rw[HS.out]
        refine⟨0,rfl,Nat.zero_le _,by omega,?_⟩;have h2:=HX2.out.wf.len;rw[HT.out,show off+pos+0-s=(off+k-s)+(pos-k)by omega,←Qhm t s (off+k-s) (pos-k) (by omega)]
        congr 1
        refine List.map_congr_left fun j hj=>?_
        have hj':j<pos-k:=by simpa using hj
        rw[HX2.out.wf.buf (k+j) (by omega),show s+(off+k-s)+j=off+(k+j)by omega]
       ·exact((Below.refl lo w4).drew.trans HB3.out).setCell (p:=⟨b,1036,none⟩) hblo _
       ·exact((Fr.refl _ _ _ _).drew.trans (Fr.kept HB3.out HK3.out HX2.out.sn.notok)).set _ _
     case rest =>
      obtain⟨w6,hw6e⟩:∃w6,w6=wc:=⟨_,rfl⟩
      subst hw6e;obtain⟨x1,tb1,S3,T3,B3,F3⟩:=hcut;have hwf:=HX2.out.wf;have hl1:=HX2.out.hlen;have hl2:=hwf.len;have hl3:=HX2.out.len;have hrd3:=HX2.out.law.keep _ _ _ HX2.out.rd (.ofBelow B3 (fun d h _=>h) F3.ok);have hBA:BytesAt w6 b (1+pos) ((t.drop σ.p).take (en-pos)):=by
       intro j hj;rw[hl3]at hj;have:=HX2.out.bytes j (by rw[hl3];exact hj);rw[show 1+pos+j=1+(pos+j)by omega]at this ⊢;rw[HX2.out.sn.bufAt (pos+j) (by omega)]at this;rw[S3.bufAt (pos+j) (by omega)];exact this
      obtain⟨cur,hcur,hcsz,hcR⟩:=S3.block;have hcp:(Builtin.copy_ #[78,78] 3 #[.slice (some ⟨b,1,none⟩) 1025 1025,.slice (some ⟨b,1+pos,none⟩) (en-pos) (1025-pos)]).run prog w6.drew=.ok (goInt ((en-pos:Nat):Int)) (w6.drew.setRow b (spl cur 1 ((t.drop σ.p).take (en-pos)))):=by
       have:=run_copy_row (P:=prog) w6.drew 78 78 3 5 b 1 1025 1025 ⟨b,1+pos,none⟩ (en-pos) (1025-pos) cur 249 (Lib.byteCells ((t.drop σ.p).take (en-pos))) Qhd Qhc hcur (by rw[Lib.byteCells_length,hl3];exact(Nat.min_eq_left (by omega)).symm) (fun j v hj=>by
        rw[QcE];unfold Lib.byteCells at hj;rw[List.getElem?_map]at hj;cases hx:((t.drop σ.p).take (en-pos))[j]? with
        | none=>rw[hx]at hj;cases hj
        | some y =>
         rw[hx]at hj;obtain⟨hjl,_⟩:=List.getElem?_eq_some_iff.1 hx;have:=hBA j hjl;rw[List.getD_eq_getElem?_getD,hx]at this;exact this.trans hj) (by rw[Lib.byteCells_length,hl3];omega) (Lib.byteCells_one _)
       rw[Lib.byteCells_length,hl3]at this;rw[this];unfold spl;rw[hl3]
      have hblt3:=S3.lt;have d0:=S3.c_pos;have d1:=S3.c_en;simp only at d0 d1;rw[hwf.fpos]at d0;rw[hwf.fen]at d1;have g1:(pos:Int)≤(en:Int):=by omega
      have g2:(en:Int)≤1025:=by omega
      have g4:en≤1025:=by omega
      have g5:¬1025=pos:=by omega
      have HS3:=Hi S3;have HT3:=Hi T3;have HB3:=Hi B3;have HF3:=Hi F3;have HWF:=Hi hwf;have HRD:=Hi hrd3;have HBA:=Hi hBA;have HCU:Hid (w6.heap[b]? =some (.cells cur 249 (0,0))∧1025<cur.size):=Hi ⟨hcur,hcsz⟩;have HL3:=Hi hl3;have HLN:Hid (t.length≤1000000∧off+en≤t.length):=Hi ⟨hl1,hl2⟩;clear S3 T3 B3 F3 hwf hrd3 hBA hcur hcsz hcR hl3 hl1 hl2 c0 c1 f1
      go_wp2_with fail
      refine QaK 16 (by kernel_rfl) (by kernel_rfl) ?_;simp only[List.take_succ_cons,List.take_zero,List.drop_succ_cons,List.drop_zero]
      repeat still_step
      refine wpStill_nil ?_
      go_upto_region 8 with(fail)
      refine Qba fun w7 hw7=>?_
      have hB7:w7.heap[b]? =some (.cells (spl cur (1+0) ((t.drop σ.p).take (en-pos))) 249 (0,0)):=hw7▸setRow_heap w6.drew b cur _ 249 (0,0) HCU.out.1;have hE7:Ext (fun d=>d=b) w6 w7:=hw7▸(Ext.refl (fun d=>d=b) w6).drew.trans (QdM w6.drew _ HCU.out.1 (by decide));have S7:=HS3.out.spliced HCU.out.1 hB7 (by rw[HL3.out];omega) hE7 (fun d h=>.inr h);obtain⟨bf,hbfe⟩:∃bf:Nat→UInt8,bf=fun j=>if 0≤j∧j<0+((t.drop σ.p).take (en-pos)).length then((t.drop σ.p).take (en-pos)).getD (j-0) 0 else F.buf j:=⟨_,rfl⟩
      have hbf:∀j,j<en-pos→bf j=t.getD (σ.p+j) 0:=fun j hj=>by
       rw[hbfe];simp only;rw[if_pos (by rw[HL3.out];omega),Nat.sub_zero,List.getD_eq_getElem?_getD,List.getElem?_take_of_lt hj,←List.getD_eq_getElem?_getD,QbA]
      replace S7:Sn w7 lo b {F with tp:=x1,buf:=bf} tb1:=by rw[hbfe];exact S7
      have HBF:=Hi hbf;have HE7:=Hi hE7;clear hbf hbfe hw7 hcp hE7 hB7 d0 d1;have hblt7:=S7.lt;have d0:=S7.c_pos;have d1:=S7.c_en;have d2:=S7.c_off;simp only at d0 d1 d2;rw[HWF.out.fpos]at d0;rw[HWF.out.fen]at d1;rw[HWF.out.foff]at d2;have f2:=S7.free 1028;have f3:=S7.free 1026;have HS7:=Hi S7;clear S7;have hoff:=HLN.out;have g6:(off:Int)≤1000000:=by omega
      clear hoff
      go_region
      all_goals
       go_upto_region 9 with(fail)
       refine Qba fun w8 hw8=>?_
       have S8:Sn w8 lo b {F with tp:=x1,buf:=bf,off:=(off:Int)+(pos:Int)} tb1:=hw8▸(HS7.out.s_off _).drew;have E8:Ext (fun d=>d=b) w6 w8:=hw8▸HE7.out.trans ((Ext.refl (fun d=>d=b) w7).setb _ _).drew;clear hw8 d0 d1 d2 f2 f3;have d0:=S8.c_pos;have d1:=S8.c_en;simp only at d0 d1;rw[HWF.out.fpos]at d0;rw[HWF.out.fen]at d1;have HS8:=Hi S8;clear S8;have HE8:=Hi E8;clear E8
       go_cut [5] (fun s wx=>s=.int .i64 ((en-pos:Nat):Int)∧Sn wx lo b {F with tp:=x1,buf:=bf,off:=(off:Int)+(pos:Int)} tb1∧Ext (fun d=>d=b) w6 wx)
       case first =>
        go_quiet (fail)
        go_wp2_with fail
        go_meet
        exact⟨by congr 1;omega,HS8.out.drewN _,HE8.out.drewN _⟩
       case rest =>
        obtain⟨rfl,S9,E9⟩:=hcut;clear d0 d1;have d0:=S9.c_src;simp only at d0;rw[HWF.out.fsrc]at d0;have hi:en-pos≤3:=by omega
        have hie2:en-pos+pos=en:=by omega
        generalize hie:en-pos=i at *;have HIE:=Hi hie;clear hie hie2 hm4 g1 g2 g4 g5 g6;have hm1:=HX2.out.law.ahead;have hm2:=HX2.out.law.meth;have hm3:=HX2.out.law.ent;have g1:(i:Int)≤3:=by omega
        have g2:i≤1025:=by omega
        have g3:¬1025=i:=by omega
        have g4:(i:Int)≤1024:=by omega
        have g5:i≤1024:=by omega
        have g7:(0:Int)≤i:=by omega
        have hblt9:=S9.lt;have HS9:=Hi S9;clear S9;have HE9:=Hi E9;clear E9;have HR9:Hid (∀W,Ext (fun _=>False) wc W→r.R W (t.drop (off+en))):=Hi fun W hW=>HX2.out.law.keep _ _ _ (HX2.out.law.keep _ _ _ HRD.out (HE9.out.mono fun d hd=>by subst hd;exact hblo)) (hW.mono fun _ h=>h.elim)
        by_cases hl:t.drop (off+en)=[]
        ·obtain⟨ea,hea⟩:=HX2.out.eof
         have h15:=HX2.out.h15;have hea9:wc.cell? ⟨0,0,none⟩=some (.iface 346 (.pointer (some ea))):=HE9.out.cell (p:=⟨0,0,none⟩) (show ¬(0=b)by omega) ((HB3.out.cell (p:=⟨0,0,none⟩) (show 0<lo by omega)).trans hea);have HRd:Hid (∀cap W,Ext (fun _=>False) wc W→Calls prog r.f #[r.ptr,.slice (some ⟨b,1+i,none⟩) (1024-i) cap] W fun e w'=>e=.returned (.tuple #[.int .i64 0,.iface 346 (.pointer (some ea))])∧Ext (fun d=>d=r.rb) W w'∧r.R w' []):=Hi fun cap W hW=>HX2.out.law.atEnd W b (1+i) (1024-i) cap _ (hl▸HR9.out W hW) (by omega) (hW.cell (p:=⟨0,0,none⟩) (fun h=>h) hea9)
         go_upto_region 10 with(fail)
         have HK0:NK wc b 0 0 r.val r.val wc:=⟨d0,d0,Ext.refl _ _⟩
         go_region_with((with_reducible refine(HRd.out _ _ (by first | exact(Ext.refl _ _) | exact(Ext.refl _ _).drew)).mono ?_);rintro e w10 ⟨rfl,hE10,hR10⟩)
         have S10:=HS9.out.drew.ext hE10 (fun d h=>by subst h;exact HX2.out.law.hrb);have heof10:w10.cell? ⟨0,0,none⟩=some (.iface 346 (.pointer (some ea))):=hE10.cell (p:=⟨0,0,none⟩) (show ¬(0=r.rb)by have:=HX2.out.law.h15;omega) hea9;clear HK0 HRd hm1 hm2 hm3 d0 hea hea9 HR9;have d0:=S10.c_pos;have d1:=S10.c_en;have d2:=S10.c_lcl;have d3:=S10.c_col;simp only at d2 d3;rw[HWF.out.flcl]at d2;rw[HWF.out.fcol]at d3
         have d4:=S10.bufAt i (by omega);have g8:(i:Int)<1025:=by omega
         have g9:i<1025:=by omega
         have f0:=S10.free 1026;have f1:=S10.free 1027;have f2:=S10.free (1+i);have f3:=S10.free 1030;have f4:=S10.free 1032;have hblt10:=S10.lt;have hneof:=eof_neq ea;have hb0:¬b=0:=by omega
         have hb1:¬0=b:=by omega
         have HS10:=Hi S10;clear S10;have HE10:=Hi hE10;clear hE10;have HR10:=Hi hR10;clear hR10;have HHL:=Hi hl;clear hl
         go_upto_region 13 with(fail)
         go_region
         all_goals
          go_upto_region 14 with(fail)
          refine Qba fun w11 hw11=>?_
          have S11:Sn w11 lo b {F with tp:=x1,buf:=fun j=>if j=i then 128 else bf j,off:=(off:Int)+(pos:Int),pos:=0,en:=(i:Int)} tb1:=hw11▸((((HS10.out.s_pos 0).s_en (i:Int)).s_buf i (by omega) 128).drew);have E11:Ext (fun d=>d=b) w10 w11:=hw11▸((((Ext.refl (fun d=>d=b) w10).setb _ _).setb _ _).setb _ _).drew;have heof11:w11.cell? ⟨0,0,none⟩=some (.iface 346 (.pointer (some ea))):=E11.cell (p:=⟨0,0,none⟩) (show ¬(0=b)by omega) heof10
          clear hw11 d0 d1 d2 d3 d4 f0 f1 f2 f3 f4 heof10;have d0:=S11.c_en;have d2:=S11.c_lcl;have d3:=S11.c_col;simp only at d0 d2 d3;rw[HWF.out.flcl]at d2;rw[HWF.out.fcol]at d3;have f3:=S11.free 1030;have f4:=S11.free 1032;have hblt11:=S11.lt;have HS11:=Hi S11;clear S11;have HE11:=Hi E11;clear E11;have HEND:Hid (t.length=off+en):=Hi (by
           have h1:=congrArg List.length HHL.out;rw[List.length_drop]at h1;have h2:([]:List UInt8).length=0:=rfl;have:=HLN.out.2;omega)
          have HP:Hid (off+pos=σ.p):=Hi HWF.out.hp;have HF11:Hid (Fr r.rb b lo w w11):=Hi (HF2.out.trans (HF3.out.trans ((Fr.of_b HE9.out).trans ((Fr.refl _ _ _ _).drew.trans ((Fr.rd (HE10.out.mono fun d h=>.inl h)).trans (Fr.of_b HE11.out))))));have HX11:∀(w':World)(F':Fd)(σ':Sc)(q':Nat),Sn w' lo b F' tb1→Ext (fun d=>d=b) w11 w'→SWF t r σ' q' F' tb1 (off+pos) 0 i→(σ'.er=true→σ.er=true∧F'.er=F.er)→SWX t r lo b σ' q' w' F' tb1 (off+pos) 0 i:=fun w' F' σ' q' h1 h2 h3 h4=>by
           have h15:=HX2.out.h15;have hrb:=HX2.out.law.hrb;have hr15:=HX2.out.law.h15;have hd:t.drop (off+pos+i)=[]:=List.drop_eq_nil_of_le (by have:=HEND.out;have:=HIE.out;omega);have hx0:Ext (fun d=>d=r.rb∨lo≤d) w4 w11:=(Ext.ofBelow HB3.out (fun d h _=>.inr h) HF3.out.ok).trans ((HE9.out.mono fun d h=>.inr (by subst h;exact hblo)).trans ((Ext.refl _ _).drew.trans ((HE10.out.mono fun d h=>.inl h).trans (HE11.out.mono fun d h=>.inr (by subst h;exact hblo)))))
           have hx1:Ext (fun d=>d=r.rb∨lo≤d) w4 w':=hx0.trans (h2.mono fun d h=>.inr (by subst h;exact hblo));refine⟨h1,h3,?_,Qbg HX2.out.tabs hx1 (by omega) (by omega),⟨ea,h2.cell (p:=⟨0,0,none⟩) (show ¬(0=b)by omega) heof11⟩,Xe HX2.out.hlo hx1.size,h15,HX2.out.hlen,HX2.out.law,fun h=>by obtain⟨k1,k2⟩:=h4 h;obtain⟨T,p,e,hp⟩:=HX2.out.erk k1;exact⟨T,p,k2.trans e,hp.ok hx1.ok⟩⟩;rw[hd];exact HX2.out.law.keep _ _ _ HR10.out ((HE11.out.trans h2).mono fun d h=>by subst h;exact hblo)
          have HXX:=Hi HX11;clear HX11;by_cases hi0:i=0
          ·subst hi0
           have EN:Hid (nxt t σ=(-1,{σ with col:=if 0<σ.lcl then wrap64 (σ.col+1)else σ.col,lcl:=0})):=Hi (nxt_end (by have:=HEND.out;have:=HIE.out;have:=HP.out;omega));by_cases hlc:0<σ.lcl
           ·have hlc':(0:Int)<(σ.lcl:Int):=by omega
            have HLC:=Hi hlc;clear hlc
            go_wp2_with fail
            go_ret;unfold Qdd;rw[EN.out,if_pos HLC.out];refine⟨rfl,⟨_,_,_,_,_,HXX.out _ _ _ _ ((HS11.out.s_col _).s_lcl _) (((Ext.refl (fun d=>d=b) w11).setb _ _).setb _ _) (HWF.out.fresh (fun j h=>absurd h (Nat.not_lt_zero j)) (by simp) (Nat.zero_le _) (by have:=HEND.out;have:=HIE.out;have:=HP.out;omega) HT3.out rfl rfl rfl rfl rfl) (fun h=>⟨h,rfl⟩)⟩,?_⟩;exact(HF11.out.set _ _).set _ _
           ·have hlc':¬(0:Int)<(σ.lcl:Int):=by omega
            have HLC:=Hi hlc;clear hlc
            go_wp2_with fail
            go_ret;unfold Qdd;rw[EN.out,if_neg HLC.out];refine⟨rfl,⟨_,_,_,_,_,HXX.out _ _ _ _ (HS11.out.s_lcl _) ((Ext.refl (fun d=>d=b) w11).setb _ _) (HWF.out.fresh (fun j h=>absurd h (Nat.not_lt_zero j)) (by simp) (Nat.zero_le _) (by have:=HEND.out;have:=HIE.out;have:=HP.out;omega) HT3.out rfl rfl rfl HWF.out.fcol rfl) (fun h=>⟨h,rfl⟩)⟩,?_⟩;exact HF11.out.set _ _
          ·have hi1:((i:Int)==0)=false:=by simp;omega
           have HI0:=Hi hi0;clear hi0
           go_wp2_with fail
           go_meet
           refine⟨_,tb1,off+pos,0,i,HXX.out _ _ _ _ HS11.out (Ext.refl _ _) (HWF.out.fresh (bf:=fun j=>if j=i then 128 else bf j) (fun j h=>(if_neg (by omega)).trans (HBF.out j h)) (by simp) (by omega) (by have:=HEND.out;have:=HIE.out;have:=HP.out;omega) HT3.out rfl rfl rfl HWF.out.fcol HWF.out.flcl) (fun h=>⟨h,rfl⟩),HF11.out,by have:=HI0.out;omega,?_⟩;rw[List.take_of_length_le (by rw[List.length_drop];have:=HEND.out;have:=HIE.out;have:=HP.out;omega)]
        ·obtain⟨cur9,hcur9,hcsz9,hcR9⟩:=HS9.out.block
         have HRd:Hid (∀cap W,1024-i≤cap→cap≤1025→Ext (fun _=>False) wc W→Calls prog r.f #[r.ptr,.slice (some ⟨b,1+i,none⟩) (1024-i) cap] W (Got r W (t.drop (off+en)) b (1+i) (1024-i) cur9 249)):=Hi fun cap W hcp1 hcp2 hW=>HX2.out.law.more W (t.drop (off+en)) b (1+i) (1024-i) cap cur9 249 (HR9.out W hW) hl (by omega) (by omega) hcp1 (by unfold maxLen;omega) (by decide) hblo (hW.heap (fun h=>h) hcur9) (by omega)
         have HCU9:Hid (wc.heap[b]? =some (.cells cur9 249 (0,0))):=Hi hcur9;clear hcur9 hcR9 hcsz9
         go_upto_region 10 with(fail)
         go_region_with((with_reducible refine(HRd.out _ _ (by omega) (by omega) (by first | exact(Ext.refl _ _) | exact(Ext.refl _ _).drew)).mono ?_);rintro e w10 ⟨k,hk1,hk2,hk3,rfl,hB10,hE10,hR10⟩)
         have hlk:((t.drop (off+en)).take k).length=k:=by rw[List.length_take];omega
         have S10:=HS9.out.drew.spliced HCU9.out hB10 (by rw[hlk];omega) hE10 (fun d h=>h.elim (fun e=>.inl (by subst e;exact HX2.out.law.hrb)) .inr);obtain⟨bg,hbge⟩:∃bg:Nat→UInt8,bg=fun j=>if i≤j∧j<i+((t.drop (off+en)).take k).length then((t.drop (off+en)).take k).getD (j-i) 0 else bf j:=⟨_,rfl⟩
         have hbg:∀j,j<i+k→bg j=t.getD (σ.p+j) 0:=fun j hj=>by
          have h1:=HIE.out;have h2:=HWF.out.hp;rw[hbge];show(if i≤j∧j<i+((t.drop (off+en)).take k).length then((t.drop (off+en)).take k).getD (j-i) 0 else bf j)=_;rw[hlk];by_cases hji:i≤j
          ·rw[if_pos ⟨hji,hj⟩,List.getD_eq_getElem?_getD,List.getElem?_take_of_lt (by omega),←List.getD_eq_getElem?_getD,QbA,show off+en+(j-i)=σ.p+j by omega]
          ·rw[if_neg (by omega)]
           exact HBF.out j (by omega)
         replace S10:Sn w10 lo b {F with tp:=x1,buf:=bg,off:=(off:Int)+(pos:Int)} tb1:=by rw[hbge];exact S10
         have HBG:=Hi hbg;have hkl:off+en+k≤t.length:=by rw[List.length_drop]at hk3;omega
         have HKL:=Hi hkl;clear hbg hbge hB10 hlk HRd hm1 hm2 hm3 d0 HR9 HCU9 hk3 hkl;have d0:=S10.c_pos;have d1:=S10.c_en;have d4:=S10.bufAt (i+k) (by omega);have g8:(i:Int)+(k:Int)<1025:=by omega
         have g9:i+k<1025:=by omega
         have g10:(k:Int)≤1024:=by omega
         have f0:=S10.free 1026;have f1:=S10.free 1027;have f2:=S10.free (1+(i+k));have hblt10:=S10.lt;have HS10:=Hi S10;clear S10;have HE10:=Hi hE10;clear hE10;have HR10:=Hi hR10;clear hR10;have HK12:Hid (1≤k∧i+k≤1024):=Hi ⟨hk1,by omega⟩;clear hk1 hk2 hl
         go_upto_region 13 with(fail)
         go_region
         all_goals
          go_upto_region 14 with(fail)
          refine Qba fun w11 hw11=>?_
          have S11:Sn w11 lo b {F with tp:=x1,buf:=fun j=>if j=i+k then 128 else bg j,off:=(off:Int)+(pos:Int),pos:=0,en:=(i:Int)+(k:Int)} tb1:=hw11▸((((HS10.out.s_pos 0).s_en ((i:Int)+(k:Int))).s_buf (i+k) (by omega) 128).drew);have E11:Ext (fun d=>d=b) w10 w11:=hw11▸((((Ext.refl (fun d=>d=b) w10).setb _ _).setb _ _).setb _ _).drew;clear hw11 d0 d1 d4 f0 f1 f2;have HS11:=Hi S11;clear S11;have HE11:=Hi E11;clear E11
          go_wp2_with fail
          have h15:=HX2.out.h15;have hrb:=HX2.out.law.hrb;have hr15:=HX2.out.law.h15;obtain⟨ea,hea⟩:=HX2.out.eof;have hx1:Ext (fun d=>d=r.rb∨lo≤d) w4 w11:=(Ext.ofBelow HB3.out (fun d h _=>.inr h) HF3.out.ok).trans ((HE9.out.mono fun d h=>.inr (by subst h;exact hblo)).trans ((Ext.refl _ _).drew.trans ((HE10.out.mono fun d h=>h.elim .inl (fun e=>.inr (by subst e;exact hblo))).trans (HE11.out.mono fun d h=>.inr (by subst h;exact hblo)))))
          have hen:off+pos+(i+k)=off+en+k:=by have:=HIE.out;omega
          have XF:SWX t r lo b σ 0 w11 {F with tp:=x1,buf:=fun j=>if j=i+k then 128 else bg j,off:=(off:Int)+(pos:Int),pos:=0,en:=(i:Int)+(k:Int)} tb1 (off+pos) 0 (i+k):=by
           refine⟨HS11.out,HWF.out.fresh (bf:=fun j=>if j=i+k then 128 else bg j) (fun j h=>(if_neg (by omega)).trans (HBG.out j h)) (by simp) HK12.out.2 (by have:=HWF.out.hp;have:=HKL.out;omega) HT3.out rfl (by push_cast;rfl) rfl HWF.out.fcol HWF.out.flcl,?_,Qbg HX2.out.tabs hx1 (by omega) (by omega),⟨ea,hx1.cell (p:=⟨0,0,none⟩) (show ¬(0=r.rb∨lo≤0)by omega) hea⟩,Xe HX2.out.hlo hx1.size,h15,HX2.out.hlen,HX2.out.law,fun h=>by obtain⟨T,p,e,hp⟩:=HX2.out.erk h;exact⟨T,p,e,hp.ok hx1.ok⟩⟩
           rw[hen,←List.drop_drop];exact HX2.out.law.keep _ _ _ HR10.out (HE11.out.mono fun d h=>by subst h;exact hblo)
          refine⟨⟨_,_,_,_,_,XF,?_⟩,?_⟩
          ·exact HF2.out.trans (HF3.out.trans ((Fr.of_b HE9.out).trans ((Fr.refl _ _ _ _).drew.trans ((Fr.rd HE10.out).trans (Fr.of_b HE11.out)))))
          ·rw[XF.gap,HGP.out]
           have:=HKL.out;have:=HK12.out.1;omega
 case rest =>
  as_aux_lemma =>
  clear HX HXE HL hx hx' hl hb1 hb2 hblt hw4 hw5;obtain⟨F,tb,off,pos,en,X,hF,hlt,hd⟩:=hcut;have hpl:¬t.length≤σ.p:=by have:=X.wf.hp;have:=X.wf.len;omega
  have hne:t.drop σ.p≠[]:=by intro e;have:=congrArg List.length e;rw[List.length_drop]at this;simp at this;omega
  have hx0:(t.drop σ.p).getD 0 0=t.getD σ.p 0:=by rw[QbA];rfl
  have hw4:=X.wf.le2;have h:=X.sn;have hblt:=h.lt;have c0:=h.c_pos;have c00:=h.c_en;have c1:=h.c_lcl;have c2:=h.c_col;have c3:=h.c_lll;have c4:=h.c_ln;have c5:=h.bufAt pos (by omega);have f1:=h.free 1026;have f2:=h.free 1032;have f3:=h.free 1030;have f4:=h.free 1031;have f5:=h.free 1029;have hb1:pos<1025:=by omega
  have hb2:(pos:Int)<1025:=by omega
  have hblo:=h.hlo;rw[X.wf.fpos]at c0;rw[X.wf.fen]at c00;rw[X.wf.here hlt]at c5;rw[X.wf.fcol]at c2;rw[X.wf.fln]at c4;have H:=Hi h;have HX:=Hi X;have HL:=Hi hlt;have HF:=Hi hF;have HD:=Hi hd;have HC:Hid (F.col=σ.col∧F.ln=σ.ln∧F.lll=σ.lll):=Hi ⟨X.wf.fcol,X.wf.fln,X.wf.flll⟩;clear h X hF hd;by_cases hx:(t.getD σ.p 0).toNat<128
  ·have hd:dec (t.drop σ.p)=((t.getD σ.p 0).toNat,1):=by
    have:=Qe0 hne (by rw[hx0];exact hx);rw[hx0]at this;exact this
   have en1:=Qhl hpl hd;rw[if_neg (by simp only;omega)]at en1;clear hd hne hpl hx0 HD;simp only at en1;generalize t.getD σ.p 0=x at *;have hl:x.toNat<256:=x.toNat_lt;have hx':(x.toNat:Int)<128:=by omega
   by_cases h0:x.toNat=0
   ·rw[if_pos h0]at en1
    have EN:=Hi en1;clear en1;have HN:=Hi h0;rw[h0]at c5;clear h0 hx hx';go_wp2
    go_quiet (fail)
    go_wp2_with fail
    refine(Qec (((H.out.drewN _).s_pos _).s_lcl _ |>.s_col _) _ (by have:=HX.out.hlo;simpa [World.setCell]using this)).mono ?_;rintro e w2⟨rfl,⟨x2,T,p2,hS⟩,hE⟩;have HS:=Hi hS;clear hS;have HE:=Hi hE;clear hE;go_wp2;go_ret;unfold Qdd;rw[EN.out];refine⟨rfl,⟨_,_,_,_,_,HX.out.moveE HS.out ?_ (HX.out.wf.adv 1 (by have:=HL.out;omega) _ F.lll F.ln _ _ _ HC.out.2.2 HC.out.2.1 true (.iface T p2.1) (fun h=>by cases h) (fun _=>⟨_,_,rfl⟩)) rfl (fun _=>⟨_,_,rfl,p2.2.mono (Nat.le_of_lt HX.out.law.hrb)⟩)⟩,?_⟩
    ·exact(((((Ext.refl _ _).drewN _).set (.inl hblo) _).set (.inl hblo) _).set (.inl hblo) _).trans (Qc8 HE.out hblo)
    ·exact HF.out.trans ((((((Fr.refl _ _ _ _).drewN _).set _ _).set _ _).set _ _).trans (Fr.of_b HE.out))
   ·by_cases h1:x.toNat=10
    ·rw[if_neg h0,if_pos h1]at en1
     have EN:=Hi en1;clear en1;have HN:=Hi h1;rw[h1]at c5;clear h0 h1 hx hx';go_wp2
     go_quiet (fail)
     go_wp2_with fail
     go_ret;unfold Qdd;rw[EN.out];refine⟨rfl,⟨_,_,_,_,_,HX.out.move (((((H.out.drewN _).s_pos _).s_lcl _ |>.s_col _).s_ln _).s_lll _ |>.s_col _) ?_ (HX.out.wf.adv 1 (by have:=HL.out;omega) 0 (wrap64 (σ.col+1)) (wrap64 (σ.ln+1)) _ _ _ rfl rfl σ.er F.er HX.out.wf.er0 HX.out.wf.er1) rfl⟩,?_⟩
     ·exact((((((((Ext.refl _ _).drewN _).set (.inl hblo) _).set (.inl hblo) _).set (.inl hblo) _).set (.inl hblo) _).set (.inl hblo) _).set (.inl hblo) _)
     ·exact HF.out.trans ((((((((Fr.refl _ _ _ _).drewN _).set _ _).set _ _).set _ _).set _ _).set _ _).set _ _)
    ·rw[if_neg h0,if_neg h1]at en1
     have EN:=Hi en1;clear en1;have n0:((x.toNat:Int)==0)=false:=by simpa using h0
     have n1:((x.toNat:Int)==10)=false:=by simp;omega
     clear hx;go_wp2
     go_quiet (fail)
     go_wp2_with fail
     go_ret;unfold Qdd;rw[EN.out];refine⟨rfl,⟨_,_,_,_,_,HX.out.move (((H.out.drewN _).s_pos _).s_lcl _ |>.s_col _) ?_ (HX.out.wf.adv 1 (by have:=HL.out;omega) _ F.lll F.ln _ _ _ HC.out.2.2 HC.out.2.1 σ.er F.er HX.out.wf.er0 HX.out.wf.er1) rfl⟩,?_⟩
     ·exact(((((Ext.refl _ _).drewN _).set (.inl hblo) _).set (.inl hblo) _).set (.inl hblo) _)
     ·exact HF.out.trans (((((Fr.refl _ _ _ _).drewN _).set _ _).set _ _).set _ _)
  ·have hbig:=dec_big hne (by rw[hx0];omega)
   have hwd:=Qco hne;have hru:=Qed (t.drop σ.p);have hwd2:(dec (t.drop σ.p)).2≤en-pos:=by
    have hn2:(t.drop σ.p).take (en-pos)≠[]:=by intro e;have:=congrArg List.length e;rw[HX.out.len]at this;simp at this;omega
    have:=(Qco hn2).2.1;rw[HD.out,HX.out.len]at this;exact this
   have hx':¬((t.getD σ.p 0).toNat:Int)<128:=by omega
   have hx2:(128:Int)≤((t.getD σ.p 0).toNat:Int):=by omega
   have HDC:Hid (∀cap W,Ext (fun d=>lo≤d∧d≠b) wc W→Calls prog 161 #[.slice (some ⟨b,1+pos,none⟩) (en-pos) cap] W fun e w'=>e=.returned (.tuple #[.int .i32 (dec (t.drop σ.p)).1,.int .i64 (dec (t.drop σ.p)).2])∧Below W.heap.size W w'):=Hi (fun cap W hE=>by
    have:=Qdu ((t.drop σ.p).take (en-pos)) b (1+pos) cap W (Qbg HX.out.tabs hE (by have:=HX.out.h15;omega) (by have:=HX.out.h15;omega)) (fun j hj=>hE.cell (p:=⟨b,_,none⟩) (fun h=>h.2 rfl) (HX.out.bytes j hj)) (Nat.lt_of_lt_of_le hblt hE.size) (by rw[HX.out.len];omega);rw[HX.out.len,HD.out]at this;exact this)
   have HPL:=Hi hpl;clear HD hx hpl hx0 hne;generalize hdd:dec (t.drop σ.p)=d at *;obtain⟨rn,wd⟩:=d;simp only at *;have HDD:=Hi hdd;clear hdd;generalize t.getD σ.p 0=y at *;have hl:y.toNat<256:=y.toNat_lt;have hle:(pos:Int)≤(en:Int):=by omega
   have hle2:(en:Int)≤1025:=by omega
   have hple:pos≤en:=by omega
   have hple2:en≤1025:=by omega
   have hnc:¬1025=pos:=by omega
   by_cases hbad:rn=65533∧wd=1
   ·have EN:Hid (nxt t σ=(65533,{σ with p:=σ.p+1,lcl:=1,col:=wrap64 (σ.col+1),er:=true})):=Hi (by rw[Qhl HPL.out HDD.out,if_pos hbad])
    obtain⟨rfl,rfl⟩:=hbad;have HD2:Hid (∀cap W,Ext (fun d=>lo≤d∧d≠b) wc W→Calls prog 161 #[.slice (some ⟨b,1+pos,none⟩) (en-pos) cap] W fun e w'=>e=.returned (.tuple #[.int .i32 65533,.int .i64 1])∧Below W.heap.size W w'):=HDC;clear HDC;go_wp2
    go_quiet (fail)
    go_wp2_with fail
    obtain⟨w2,hw2⟩:∃w2,wc.drewN nq=w2:=⟨_,rfl⟩
    rw[hw2];have HK0:NK wc b 1026 1027 (.int .i64 pos) (.int .i64 en) w2:=hw2▸⟨c0,c00,(Ext.refl _ _).drewN nq⟩;clear hw2;have hk1:=HK0.all.1;have hk2:=HK0.all.2.1
    go_region_held3 (fun w'=>w'.cell? ⟨b,1026,none⟩=some (.int .i64 pos)∧w'.cell? ⟨b,1027,none⟩=some (.int .i64 en)∧NK wc b 1026 1027 (.int .i64 pos) (.int .i64 en) w') (first | exact HK0.drew.all | exact hqk.all) (first | (go_at_call 161;(with_reducible refine(HD2.out _ _ ((And.right (And.right (by assumption)):NK wc b 1026 1027 (.int .i64 pos) (.int .i64 en) _).e.mono (fun _ h=>h.elim))).mono ?_);rintro e w3 ⟨rfl,hB⟩;have hqk:=NK.next (And.right (And.right (by assumption))) hB))
    have h3:=H.out.old hqk.below;have X3:=HX.out.move h3 (hqk.e.mono fun _ h=>h.elim) HX.out.wf rfl;have F3:=HF.out.trans (Fr.below (rb:=r.rb) (b:=b) (lo:=lo) hqk.below);clear c0 c00 c1 c2 c3 c4 c5 f1 f2 f3 f4 f5 HK0 hk1 hk2 hqk hB;have hblt3:=h3.lt;have c0:=h3.c_pos;have c1:=h3.c_lcl;have c2:=h3.c_col;have f1:=h3.free 1026;have f2:=h3.free 1032;have f3:=h3.free 1030;rw[X3.wf.fpos]at c0;rw[X3.wf.fcol]at c2
    have H3:=Hi h3;clear h3;have HX3:=Hi X3;clear X3;have HF3:=Hi F3;clear F3;have hz3:=HX3.out.hlo
    go_wp2_with fail
    refine(Qec (((H3.out.s_pos _).s_lcl _).s_col _) _ (by simpa [World.setCell]using hz3)).mono ?_;rintro e w4⟨rfl,⟨x2,T,p2,hS⟩,hE⟩;have HS:=Hi hS;clear hS;have HE:=Hi hE;clear hE;go_wp2;go_ret;unfold Qdd;rw[EN.out];refine⟨rfl,⟨_,_,_,_,_,HX3.out.moveE HS.out ?_ (HX3.out.wf.adv 1 (by have:=HL.out;omega) _ F.lll F.ln _ _ _ HC.out.2.2 HC.out.2.1 true (.iface T p2.1) (fun h=>by cases h) (fun _=>⟨_,_,rfl⟩)) rfl (fun _=>⟨_,_,rfl,p2.2.mono (Nat.le_of_lt HX3.out.law.hrb)⟩)⟩,?_⟩
    ·exact((((Ext.refl _ _).set (.inl hblo) _).set (.inl hblo) _).set (.inl hblo) _).trans (Qc8 HE.out hblo)
    ·exact HF3.out.trans (((((Fr.refl _ _ _ _).set _ _).set _ _).set _ _).trans (Fr.of_b HE.out))
   ·have EN:Hid (nxt t σ=((rn:Int),{σ with p:=σ.p+wd,lcl:=wd,col:=wrap64 (σ.col+1)})):=Hi (by rw[Qhl HPL.out HDD.out,if_neg hbad,if_neg (by simp only;omega),if_neg (by simp only;omega)])
    have g1:((rn:Int)==0)=false:=by simp;omega
    have g2:((rn:Int)==10)=false:=by simp;omega
    have g5:(wd:Int)≤4:=by omega
    have g6:(1:Int)≤wd:=by omega
    by_cases hr:rn=65533
    ·have hwn:((wd:Int)==1)=false:=by simp;omega
     subst hr;have HD2:Hid (∀cap W,Ext (fun d=>lo≤d∧d≠b) wc W→Calls prog 161 #[.slice (some ⟨b,1+pos,none⟩) (en-pos) cap] W fun e w'=>e=.returned (.tuple #[.int .i32 65533,.int .i64 wd])∧Below W.heap.size W w'):=HDC;clear HDC;go_wp2
     go_quiet (fail)
     go_wp2_with fail
     obtain⟨w2,hw2⟩:∃w2,wc.drewN nq=w2:=⟨_,rfl⟩
     rw[hw2];have HK0:NK wc b 1026 1027 (.int .i64 pos) (.int .i64 en) w2:=hw2▸⟨c0,c00,(Ext.refl _ _).drewN nq⟩;clear hw2;have hk1:=HK0.all.1;have hk2:=HK0.all.2.1
     go_region_held3 (fun w'=>w'.cell? ⟨b,1026,none⟩=some (.int .i64 pos)∧w'.cell? ⟨b,1027,none⟩=some (.int .i64 en)∧NK wc b 1026 1027 (.int .i64 pos) (.int .i64 en) w') (first | exact HK0.drew.all | exact hqk.all) (first | (go_at_call 161;(with_reducible refine(HD2.out _ _ ((And.right (And.right (by assumption)):NK wc b 1026 1027 (.int .i64 pos) (.int .i64 en) _).e.mono (fun _ h=>h.elim))).mono ?_);rintro e w3 ⟨rfl,hB⟩;have hqk:=NK.next (And.right (And.right (by assumption))) hB))
     have h3:=H.out.old hqk.below;have X3:=HX.out.move h3 (hqk.e.mono fun _ h=>h.elim) HX.out.wf rfl;have F3:=HF.out.trans (Fr.below (rb:=r.rb) (b:=b) (lo:=lo) hqk.below);clear c0 c00 c1 c2 c3 c4 c5 f1 f2 f3 f4 f5 HK0 hk1 hk2 hqk hB;have hblt3:=h3.lt;have c0:=h3.c_pos;have c1:=h3.c_lcl;have c2:=h3.c_col;have f1:=h3.free 1026;have f2:=h3.free 1032;have f3:=h3.free 1030;rw[X3.wf.fpos]at c0;rw[X3.wf.fcol]at c2
     have H3:=Hi h3;clear h3;have HX3:=Hi X3;clear X3;have HF3:=Hi F3;clear F3;have hz3:=HX3.out.hlo
     go_wp2_with fail
     go_ret;unfold Qdd;rw[EN.out];refine⟨rfl,⟨_,_,_,_,_,HX3.out.move (((H3.out.s_pos _).s_lcl _).s_col _) ?_ (HX3.out.wf.adv wd (by have:=HL.out;omega) _ F.lll F.ln _ _ _ HC.out.2.2 HC.out.2.1 σ.er F.er HX3.out.wf.er0 HX3.out.wf.er1) rfl⟩,?_⟩
     ·exact((((Ext.refl _ _).set (.inl hblo) _).set (.inl hblo) _).set (.inl hblo) _)
     ·exact HF3.out.trans ((((Fr.refl _ _ _ _).set _ _).set _ _).set _ _)
    ·have hrn:((rn:Int)==65533)=false:=by simp;omega
     have g3:(rn:Int)≤2097152:=by omega
     have g4:(128:Int)≤rn:=by omega
     clear hbad hr;have HD2:Hid (∀cap W,Ext (fun d=>lo≤d∧d≠b) wc W→Calls prog 161 #[.slice (some ⟨b,1+pos,none⟩) (en-pos) cap] W fun e w'=>e=.returned (.tuple #[.int .i32 rn,.int .i64 wd])∧Below W.heap.size W w'):=HDC;clear HDC;go_wp2
     go_quiet (fail)
     go_wp2_with fail
     obtain⟨w2,hw2⟩:∃w2,wc.drewN nq=w2:=⟨_,rfl⟩
     rw[hw2];have HK0:NK wc b 1026 1027 (.int .i64 pos) (.int .i64 en) w2:=hw2▸⟨c0,c00,(Ext.refl _ _).drewN nq⟩;clear hw2;have hk1:=HK0.all.1;have hk2:=HK0.all.2.1
     go_region_held3 (fun w'=>w'.cell? ⟨b,1026,none⟩=some (.int .i64 pos)∧w'.cell? ⟨b,1027,none⟩=some (.int .i64 en)∧NK wc b 1026 1027 (.int .i64 pos) (.int .i64 en) w') (first | exact HK0.drew.all | exact hqk.all) (first | (go_at_call 161;(with_reducible refine(HD2.out _ _ ((And.right (And.right (by assumption)):NK wc b 1026 1027 (.int .i64 pos) (.int .i64 en) _).e.mono (fun _ h=>h.elim))).mono ?_);rintro e w3 ⟨rfl,hB⟩;have hqk:=NK.next (And.right (And.right (by assumption))) hB))
     have h3:=H.out.old hqk.below;have X3:=HX.out.move h3 (hqk.e.mono fun _ h=>h.elim) HX.out.wf rfl;have F3:=HF.out.trans (Fr.below (rb:=r.rb) (b:=b) (lo:=lo) hqk.below);clear c0 c00 c1 c2 c3 c4 c5 f1 f2 f3 f4 f5 HK0 hk1 hk2 hqk hB;have hblt3:=h3.lt;have c0:=h3.c_pos;have c1:=h3.c_lcl;have c2:=h3.c_col;have f1:=h3.free 1026;have f2:=h3.free 1032;have f3:=h3.free 1030;rw[X3.wf.fpos]at c0;rw[X3.wf.fcol]at c2
     have H3:=Hi h3;clear h3;have HX3:=Hi X3;clear X3;have HF3:=Hi F3;clear F3;have hz3:=HX3.out.hlo
     go_wp2_with fail
     go_ret;unfold Qdd;rw[EN.out];refine⟨rfl,⟨_,_,_,_,_,HX3.out.move (((H3.out.s_pos _).s_lcl _).s_col _) ?_ (HX3.out.wf.adv wd (by have:=HL.out;omega) _ F.lll F.ln _ _ _ HC.out.2.2 HC.out.2.1 σ.er F.er HX3.out.wf.er0 HX3.out.wf.er1) rfl⟩,?_⟩
     ·exact((((Ext.refl _ _).set (.inl hblo) _).set (.inl hblo) _).set (.inl hblo) _)
     ·exact HF3.out.trans ((((Fr.refl _ _ _ _).set _ _).set _ _).set _ _)
theorem next_c(h:SW t r lo b σ w):Calls prog 121 #[.pointer (some ⟨b,0,none⟩)] w (Qdd t r lo b σ w):=by
 obtain⟨F,tb,off,pos,en,X⟩:=h;by_cases hlt:pos<en
 ·by_cases hx:(t.getD σ.p 0).toNat<128
  ·exact Qhi X hlt hx
  ·exact Qe2 X (by rw[X.wf.here hlt];omega)
 ·have he:pos=en:=by have:=X.wf.le1;omega
  subst he;exact Qe2 X (by rw[X.wf.sen];decide)
end Go.Proofs.Pg
