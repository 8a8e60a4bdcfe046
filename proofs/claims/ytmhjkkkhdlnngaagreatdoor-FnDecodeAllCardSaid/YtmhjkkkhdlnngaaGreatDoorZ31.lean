/- FnDecodeAll, part 31. -/
import Derived.Test.YtmhjkkkhdlnngaaGreatDoorZ21
import Derived.Test.YtmhjkkkhdlnngaaGreatDoorZ28
import Derived.Test.YtmhjkkkhdlnngaaGreatDoorZ30
set_option linter.all false
set_option maxRecDepth 100000
set_option maxHeartbeats 0
namespace Go.Proofs.Pg
open Go.RowKit
attribute [local go_sem] Oper.semAt_some
theorem Qiy{L:Lex}{E:Toks→Option (Ex×Toks)}(hE:Sh E){ts us:Toks}{P:Pol}(h:Wf ts)(he:Qa2 L E ts=some (P,us)):Sf us ts∧us.length<ts.length:=by
 unfold Qa2 at he;simp only[Option.bind_eq_some_iff]at he;obtain⟨a,ha,b,hb,t3,h3,c,hc,t5,h5,d,hd,t7,h7,e,he',t10,h10,f,hf,t12,h12,hlast⟩:=he;cases hlast;have s1:Sf a.2 ts:=Qeb h (l:=a.1) (us:=a.2) ha;have w1:=s1.wf h;have s2:Sf b.2 a.2:=Qfc w1 (b:=b.1) (us:=b.2) hb;have hlt:b.2.length<a.2.length:=by
  unfold effM at hb;split at hb
  ·rename_i hx;cases hb;exact Qax w1 hx (by decide)
  ·split at hb
   ·rename_i hx;cases hb;exact Qax w1 hx (by decide)
   ·cases hb
 have w2:=s2.wf w1;have s3:=QaC w2 h3;have w3:=s3.wf w2;have s4:Sf c.2 t3:=Qb6 w3 (s:=c.1) (us:=c.2) hc;have w4:=s4.wf w3;have s5:=QaC w4 h5;have w5:=s5.wf w4;have s6:Sf d.2 t5:=QcU w5 (s:=d.1) (us:=d.2) hd;have w6:=s6.wf w5;have s7:=QaC w6 h7;have w7:=s7.wf w6;have s8:Sf e.2 t7:=Qb6 w7 (s:=e.1) (us:=e.2) he';have w8:=s8.wf w7;have s9:=Qf1 w8;have w9:=s9.wf w8;have s10:=QaC w9 h10;have w10:=s10.wf w9
 have s11:Sf f.2 t10:=Qdt hE _ _ _ _ _ w10 hf;have w11:=s11.wf w10;have s12:=QaC w11 h12;have st:=s12.trans (s11.trans (s10.trans (s9.trans (s8.trans (s7.trans (s6.trans (s5.trans (s4.trans s3))))))));exact⟨st.trans (s2.trans s1),by have h1:=st.len;have h2:=s1.len;omega⟩
def Qiu(L:Lex)(N:Nat):Nat→List Pol→Toks→Option (List Pol)
 | 0,_,_=>none
 | f+1,acc,ts=>if(ty ts==0)=true then some acc else match Qa2 L (expr L N) ts with
  | none=>none
  | some (P,us)=>Qiu L N f (acc++[P]) us
def Qit(L:Lex)(t:List UInt8):Option (List Pol):=(toks t).bind fun ts=>Qiu L ts.length (ts.length+1) [] ts
theorem PolIs.extG{w w':World}{base B tb:Nat}{TT:TypeId}{P:Pol}{S:Nat→Prop}(h:PolIs w base B tb TT P)(he:Ext S w w')(hs:∀d,S d→d≠tb∧∀T c fr,w.heap[d]? =some (.cells c T fr)→T≠133∧T≠138∧T≠167∧T≠136∧T≠221∧T≠316):PolIs w' base B tb TT P:=by
 obtain⟨pn,cn,prv,acv,rev,pc,cc,cells,h1,h2,h3,h4,h5,h6,h7⟩:=h;refine⟨pn,cn,prv,acv,rev,pc,cc,cells,he.heap (fun h=>(hs _ h).1 rfl) h1,Qb3 h2 he (fun d hd=>.inr fun c fr e=>((hs d hd).2 _ c fr e).1 rfl),h3.ext he (fun d hd=>.inr fun c fr e=>((hs d hd).2 _ c fr e).2.2.1 rfl),h4.ext he (fun d hd=>.inr fun c fr e=>((hs d hd).2 _ c fr e).2.2.1 rfl),h5.ext he (fun d hd=>.inr fun c fr e=>((hs d hd).2 _ c fr e).2.2.1 rfl),Qb3 h6 he (fun d hd=>.inr fun c fr e=>((hs d hd).2 _ c fr e).2.1 rfl),h7.extG he (fun d hd T c fr e=>((hs d hd).2 T c fr e).2.2.2)⟩
def PtsIs(w:World)(base:Nat)(ptrs:List Value)(ps:List Pol):Prop:=ptrs.length=ps.length∧∀(i:Nat) P,ps[i]? =some P→∃tb B,ptrs[i]? =some (.pointer (some ⟨tb,0,none⟩))∧PolIs w base B tb 102 P
theorem PtsIs.nil{w:World}{base:Nat}:PtsIs w base [] []:=⟨rfl,fun i P h=>by simp at h⟩
theorem PtsIs.extG{w w':World}{base:Nat}{ptrs:List Value}{ps:List Pol}{S:Nat→Prop}(h:PtsIs w base ptrs ps)(he:Ext S w w')(hs:∀d,S d→∀T c fr,w.heap[d]? =some (.cells c T fr)→T≠102∧T≠133∧T≠138∧T≠167∧T≠136∧T≠221∧T≠316):PtsIs w' base ptrs ps:=by
 refine⟨h.1,fun i P hi=>?_⟩;obtain⟨tb,B,h1,h2⟩:=h.2 i P hi;refine⟨tb,B,h1,h2.extG he (fun d hd=>⟨fun e=>?_,fun T c fr k=>(hs d hd T c fr k).2⟩)⟩;subst e;obtain⟨_,_,_,_,_,_,_,_,hT,_⟩:=h2;exact(hs _ hd _ _ _ hT).1 rfl
theorem PtsIs.snoc{w:World}{base B tb:Nat}{ptrs:List Value}{ps:List Pol}{P:Pol}(h:PtsIs w base ptrs ps)(hP:PolIs w base B tb 102 P):PtsIs w base (ptrs++[.pointer (some ⟨tb,0,none⟩)]) (ps++[P]):=by
 refine⟨by simp[h.1],fun i Q hi=>?_⟩;by_cases hl:i<ps.length
 ·rw[List.getElem?_append_left hl]at hi
  obtain⟨t,B',h1,h2⟩:=h.2 i Q hi;exact⟨t,B',by rw[List.getElem?_append_left (by have:=h.1;omega)];exact h1,h2⟩
 ·have hi':i=ps.length:=by
   have:=(List.getElem?_eq_some_iff.1 hi).1;simp at this;omega
  subst hi';simp at hi;subst hi;exact⟨tb,B,by rw[←h.1];simp,hP⟩
end Go.Proofs.Pg
namespace Go.Proofs.Pg
open Go.RowKit Go.Proofs.Tryz
attribute [local go_sem] Oper.semAt_some
abbrev rdV(rb:Nat):Value:=.iface 87 (.pointer (some ⟨rb,0,none⟩))
def DcIn(t:List UInt8)(rb db bp0 base0 N:Nat)(W:World)(pend:Option Toks):Prop :=
 (pend=toks t∧W.heap[db]? =some (.cells #[rdV rb,.pointer none,.nilIface] 127 (0,0))∧PieR rb W.heap.size W t∧bp0=rb∧∀ts,toks t=some ts→ts.length=N) ∨
 (∃vs,pend=some vs∧W.heap[db]? =some (.cells #[rdV rb,.pointer (some ⟨bp0,0,none⟩),.nilIface] 127 (0,0))∧PS W bp0 base0 vs∧Wf vs∧vs.length≤N∧db<bp0)
def DcP(rb db tb bp0 base0 N:Nat)(a0:Addr)(K:Nat)(W:World)(pend:Option Toks)(e:Ending)(w':World):Prop :=
 Ext (fun d=>d=db∨d=tb∨d=bp0) W w'∧match pend with
 | none=>∃T,∃v:EVal K w' T,e=.returned (.iface T v.1)
 | some vs=>if(ty vs==0)=true then e=.returned (.iface 346 (.pointer (some a0)))else match Qa2 lx (expr lx N) vs with
  | none=>∃T,∃v:EVal K w' T,e=.returned (.iface T v.1)
  | some (P,us)=>e=.returned .nilIface∧∃bp base B,((bp=bp0∧base=base0∧db<bp0)∨(W.heap.size≤bp∧bp0=rb))∧w'.heap[db]? =some (.cells #[rdV rb,.pointer (some ⟨bp,0,none⟩),.nilIface] 127 (0,0))∧PS w' bp base us∧W.heap.size≤B∧PolIs w' base B tb 102 P
theorem dcd49{t:List UInt8}{rb db tb bp0 base0 N K:Nat}{a0:Addr}{W:World}{pend:Option Toks}(hin:DcIn t rb db bp0 base0 N W pend)(hl:t.length≤900000)(hG:Glob W)(hE:W.cell? ⟨0,0,none⟩=some (.iface 346 (.pointer (some a0))))
  (ht:W.heap[tb]? =some (.cells pol0 102 (0,0)))(h15:15≤rb)(h1:rb<db)(h2:db<tb)(hb0:rb≤bp0)(hb1:bp0≠db)(hb2:bp0≠tb)(hK:K≤rb) :
  Calls prog 49 #[.pointer (some ⟨db,0,none⟩),.pointer (some ⟨tb,0,none⟩)] W fun e w'=>(∃x,w'.heap[db]? =some (.cells #[rdV rb,x,.nilIface] 127 (0,0)))∧DcP rb db tb bp0 base0 N a0 K W pend e w':=by
 have hlt:=Qad ht;have HT:=Hi ht;clear ht;have HG:=Hi hG;clear hG;have HEF:=Hi hE;clear hE;go_enter func49,ntmps49;rcases hin with⟨hpe,hd,hR,rfl,hN⟩ | ⟨vs,hpe,hd,hps,hwf,hvN,hdl⟩
 case' inl =>
  have c0:W.cell? ⟨db,0,none⟩=some (rdV bp0):=Qaa hd rfl;have c1:W.cell? ⟨db,1,none⟩=some (.pointer none):=Qaa hd rfl;have HD:=Hi hd;clear hd;have HN:=Hi hN;clear hN;have HP0:=Hi hpe;clear hpe
  go_wp2_with fail
  refine(Qgs (r:=pieRdr bp0 W.heap.size) hR HG.out.tabs ⟨a0,HEF.out⟩ (by omega) hl (pieLaw (by omega) h15)).mono ?_;rintro e w1⟨X1,h1'⟩;clear hR c0 c1;rcases htk:toks t with _ | vs
  ·rw[htk]at h1'
   obtain⟨T',p,rfl⟩:=h1';have HX:=Hi X1;have HPE:=Hi (HP0.out.trans htk);clear htk X1
   go_wp2_with fail
   go_ret;refine⟨⟨_,HX.out.heap (show ¬db=bp0 by omega) HD.out⟩,?_⟩;unfold DcP;rw[HPE.out];exact⟨HX.out.mono (fun d h=>.inr (.inr h)),_,⟨p.1,p.2.mono hK⟩,rfl⟩
  rw[htk]at h1';obtain⟨g,cp,rfl,hg1,⟨cur,hg2,hg3⟩,hg4,hg5⟩:=h1';have HWV:=Hi (QhW htk);have HPE:=Hi (HP0.out.trans htk);have hvN:vs.length≤N:=Nat.le_of_eq (HN.out vs htk);clear htk HN HP0;have hd1:=X1.heap (show ¬db=bp0 by omega) HD.out
  go_wp2_with fail
  refine(newp_c w1 _ _ _).mono ?_;rintro e w2⟨rfl,B2⟩;have hd2:=Bk B2 hd1;have d1:w2.cell? ⟨db,1,none⟩=some (.pointer none):=Qaa hd2 rfl;have f1:=Qae hd2 1;have ld:=Qad hd2
  go_upto_region 7 with(fail)
  refine Qba fun w3 hw3=>?_
  have hb3:w3.heap[w2.heap.size]? =some (.cells #[.slice (some ⟨g,0,none⟩) vs.length cp,.int .i64 0] 142 (0,0)):=hw3▸Qah (by simp) _;have hd3:w3.heap[db]? =some (.cells #[rdV bp0,.pointer (some ⟨w2.heap.size,0,none⟩),.nilIface] 127 (0,0)):=hw3▸Qaf (Qac (o:=1) hd2 _) _;have X23:Ext (fun d=>d=db) w2 w3:=hw3▸((Ext.refl (fun d=>d=db) w2).set (p:=⟨db,1,none⟩) (.inl rfl) _).alloc _;have hz3:w3.heap.size=w2.heap.size+1:=by rw[hw3];simp
  clear hw3 d1 f1 hd1 hd2;have X13:Ext (fun d=>d=db) w1 w3:=(Ext.below B2).trans X23;have X3:Ext (fun d=>d=bp0∨d=db) W w3:=(X1.mono fun d h=>.inl h).trans (X13.mono fun d h=>.inr h);have HT3:=Hi (X3.heap (show ¬(tb=bp0∨tb=db)by omega) HT.out);have hg3':=X13.heap (show ¬g=db by omega) hg2;have hglt:=Qad hg2;have h12:=B2.size;have h01:=X1.size;have hG3:Glob w3:=HG.out.ext X3 (fun d hd=>by omega) (by omega)
  have hne:vs≠[]:=fun e=>by have:=HWV.out;rw[e]at this;exact this
  have hps:PS w3 w2.heap.size w3.heap.size vs:=PS.of (bt:=g) (off:=0) (n:=vs.length) (cap:=cp) (k:=0) (by omega) hb3 (by omega) (by omega) (by omega) hne (fun i t' hi=>by rw[Nat.zero_add,Nat.zero_add];exact QhU hg3' hg3 hg4 i t' hi) (by omega) (by omega) hG3 (by omega) (Xb _);have HX:Hid (Ext (fun d=>d=db∨d=tb∨d=bp0) W w3):=Hi (X3.mono fun d h=>h.elim (fun h=>.inr (.inr h)) .inl);clear hg3' hg2 hg3 hb3 X13 X1 X23 X3 B2 hG3
  obtain⟨bp,hbp⟩:∃bp,w2.heap.size=bp:=⟨_,rfl⟩
  obtain⟨base,hbase⟩:∃base,w3.heap.size=base:=⟨_,rfl⟩
  have hKb:K≤base:=by omega
  have hbd:bp≠db:=by omega
  have hbt:bp≠tb:=by omega
  have HOK:Hid ((bp=bp0∧base=base0∧db<bp0)∨(W.heap.size≤bp∧bp0=bp0)):=Hi (.inr ⟨by omega,rfl⟩);rw[hbp]at hps hd3 ⊢;rw[hbase]at hps;have HD3:=Hi hd3;clear hd3 hne hglt hbp
 case' inr =>
  obtain⟨bp,hbp⟩:∃bp,bp0=bp:=⟨_,rfl⟩
  obtain⟨base,hbase⟩:∃base,base0=base:=⟨_,rfl⟩
  have c1:W.cell? ⟨db,1,none⟩=some (.pointer (some ⟨bp0,0,none⟩)):=Qaa hd rfl;have HPE:=Hi hpe;clear hpe;have HWV:=Hi hwf;clear hwf;have HD:=Hi hd;clear hd
  go_upto_region 7 with(fail)
  refine Qba fun w3 hw3=>?_
  obtain rfl:w3=W:=hw3;have HX:Hid (Ext (fun d=>d=db∨d=tb∨d=bp0) w3 w3):=Hi (.refl _ _);have hbbs:=hps.hbp;have hKb:K≤base:=by omega
  have hbd:bp≠db:=by omega
  have hbt:bp≠tb:=by omega
  have HOK:Hid ((bp=bp0∧base=base0∧db<bp0)∨(w3.heap.size≤bp∧bp0=rb)):=Hi (.inl ⟨hbp.symm,hbase.symm,hdl⟩);rw[hbp,hbase]at hps;have HD3:=Hi (hbp▸HD.out);have HT3:=HT;clear c1
 all_goals
  have hwf:=HWV.out;obtain⟨u,q,rfl⟩:∃u q,vs=u::q:=by cases vs with | nil=>exact absurd rfl hps.ne | cons u q=>exact⟨u,q,rfl⟩
  have c1:w3.cell? ⟨db,1,none⟩=some (.pointer (some ⟨bp,0,none⟩)):=Qaa HD3.out rfl
  go_wp2_with fail
  refine(Qa7 hps).mono ?_;rintro e wa⟨rfl,Ba⟩
  go_wp2_with fail
  refine(QiL u _).mono ?_;rintro e wb⟨rfl,Bb⟩;have Bw:Below w3.heap.size w3 wb:=Ba.trans (Bb.mono Ba.size);have HXB:=Hi (HX.out.trans (.below Bw));have hpsb:=hps.below Bw;have hdb:=(Bw.block _ (Qad HD3.out)).trans HD3.out;have htb:=(Bw.block _ (Qad HT3.out)).trans HT3.out;have hszb:=HXB.out.size;have HPB:=Hi (Xc hpsb (Xc hdb htb));clear Ba Bb Bw hps hpsb c1;cases hi:(u.ty==0)with
  | true =>
   have e00:wb.cell? ⟨0,0,none⟩=some (.iface 346 (.pointer (some a0))):=HXB.out.cell (p:=⟨0,0,none⟩) (by intro h;rcases h with h | h | h<;>simp at h<;>omega) HEF.out;have HI:=Hi hi;clear hdb htb hi
   go_wp2_with fail
   go_ret;refine⟨⟨_,HPB.out.2.1⟩,?_⟩;unfold DcP;rw[HPE.out];refine⟨HXB.out,?_⟩;dsimp only;rw[if_pos (show(ty (u::q)==0)=true from HI.out)];rfl
  | false =>
   have d1:wb.cell? ⟨db,1,none⟩=some (.pointer (some ⟨bp,0,none⟩)):=Qaa hdb rfl;have HI:=Hi hi;clear hdb htb hi
   go_wp2_with fail
   refine(Qi8 lexC (QdZ N) (QiP lexC (fun s=>rfl) N) wb (u::q) HPB.out.1 hwf hvN HPB.out.1.hbs (.inr ⟨by omega,fun h=>hbt h.symm,fun x o t' hx=>pol0_no (hx.trans HPB.out.2.2) o t'⟩) (by decide) HPB.out.2.2).mono ?_;rintro e w5⟨X5,h5⟩;have hd5:=X5.heap (show ¬(db=bp∨db=tb)by omega) HPB.out.2.1;have HX5:=Hi (HXB.out.trans' X5 (fun d hd=>by
    rcases hd with hd | hd
    ·rcases HOK.out with h | h
     ·exact .inl (.inr (.inr (hd.trans h.1)))
     ·exact .inr (by omega)
    ·exact .inl (.inr (.inl hd))))
   have HD5:=Hi hd5;clear X5 hd5 d1;cases hpm:Qa2 lx (expr lx N) (u::q)with
   | none =>
    rw[hpm]at h5;obtain⟨T',v',rfl⟩:=h5;have HPM:=Hi hpm;clear hpm
    go_wp2_with fail
    go_ret;refine⟨⟨_,HD5.out⟩,?_⟩;unfold DcP;rw[HPE.out];refine⟨HX5.out,?_⟩;dsimp only;rw[if_neg (by rw[show(ty (u::q)==0)=false from HI.out];decide),HPM.out];exact⟨_,⟨v'.1,v'.2.mono hKb⟩,rfl⟩
   | some r =>
    obtain⟨P,us⟩:=r;rw[hpm]at h5;obtain⟨rfl,hps5,hpol⟩:=h5;have HPM:=Hi hpm;clear hpm;have HPO:=Hi (Xc hps5 hpol);clear hps5 hpol
    go_wp2_with fail
    go_ret;refine⟨⟨_,HD5.out⟩,?_⟩;unfold DcP;rw[HPE.out];refine⟨HX5.out,?_⟩;dsimp only;rw[if_neg (by rw[show(ty (u::q)==0)=false from HI.out];decide),HPM.out];exact⟨rfl,bp,base,_,HOK.out.imp id (fun h=>⟨h.1,by first | exact h.2 | rfl⟩),HD5.out,HPO.out.1,hszb,HPO.out.2⟩
theorem dblk_no{db rb:Nat}{x:Value}{w:World}(hx:∀T v,x≠.int T v)(h:w.heap[db]? =some (.cells #[rdV rb,x,.nilIface] 127 (0,0)))(o:Nat)(t:Tok):¬TokAt w db o t:=by
 intro k;have h0:=k.c0;have hc:w.cell? ⟨db,o,none⟩=(#[rdV rb,x,.nilIface]:Array Value)[o]? := by simp[World.cell?,h]
 rw[hc]at h0
 match o,h0 with
 | 0,h0=>simp at h0
 | 1,h0=>simp at h0;exact hx _ _ h0
 | 2,h0=>simp at h0
 | n+3,h0=>simp at h0
theorem DcP.kept{rb db tb bp0 base0 N K:Nat}{a0:Addr}{W w':World}{pend:Option Toks}{v:Value}(h15:15≤db)(h:DcP rb db tb bp0 base0 N a0 K W pend (.returned v) w'):DcP rb db tb bp0 base0 N a0 K W pend (.returned v) (w'.setCell ⟨db,2,none⟩ v):=by
 obtain⟨hX,h⟩:=h;refine⟨hX.set (.inl (.inl rfl)) _,?_⟩;cases pend with
 | none =>
  obtain⟨T,u,e⟩:=h;exact⟨T,u.to (fun _ h=>Qiq h),e⟩
 | some vs =>
  dsimp only at h ⊢;split
  ·rw[if_pos (by assumption)]at h;exact h
  ·rw[if_neg (by assumption)]at h
   cases hp:Qa2 lx (expr lx N) vs with
   | none =>
    rw[hp]at h;obtain⟨T,u,e⟩:=h;exact⟨T,u.to (fun _ h=>Qiq h),e⟩
   | some r =>
    rw[hp]at h;obtain⟨P,us⟩:=r;obtain⟨e,bp,base,B,h1,h2,h3,h4,h5⟩:=h;cases e;have hE:Ext (·=db) w' (w'.setCell ⟨db,2,none⟩ .nilIface):=(Ext.refl (·=db) w').set (p:=⟨db,2,none⟩) (.inl rfl) _;have hne:db≠bp:=fun e=>by
     obtain⟨_,_,_,_,_,_,hb,_⟩:=h3.ex;rw[←e,h2]at hb;cases hb
    refine⟨rfl,bp,base,B,h1,(Qac (o:=2) h2 _).trans (by simp),h3.extT hE h15 hne (fun o t=>dblk_no (fun T v h=>by cases h) h2 o t),h4,h5.extG hE (fun d hd=>⟨fun e=>?_,fun T c fr k=>?_⟩)⟩
    ·rw[hd]at e
     obtain⟨_,_,_,_,_,_,_,_,hT,_⟩:=h5;rw[←e,h2]at hT;cases hT
    ·rw[hd,h2]at k;cases k;decide
theorem dcd37{t:List UInt8}{rb db tb bp0 base0 N K:Nat}{a0:Addr}{W:World}{pend:Option Toks}(hin:DcIn t rb db bp0 base0 N W pend)(hl:t.length≤900000)(hG:Glob W)(hE:W.cell? ⟨0,0,none⟩=some (.iface 346 (.pointer (some a0))))
  (ht:W.heap[tb]? =some (.cells pol0 102 (0,0)))(h15:15≤rb)(h1:rb<db)(h2:db<tb)(hb0:rb≤bp0)(hb1:bp0≠db)(hb2:bp0≠tb)(hK:K≤rb) :
  Calls prog 37 #[.pointer (some ⟨db,0,none⟩),.pointer (some ⟨tb,0,none⟩)] W (DcP rb db tb bp0 base0 N a0 K W pend):=by
 have hd:∃x,W.heap[db]? =some (.cells #[rdV rb,x,.nilIface] 127 (0,0)):=by
  rcases hin with⟨_,hd,_⟩ | ⟨vs,_,hd,_⟩<;>exact⟨_,hd⟩
 obtain⟨x,hd⟩:=hd;have c2:W.cell? ⟨db,2,none⟩=some .nilIface:=Qaa hd rfl;have HD:=Hi (dcd49 hin hl hG hE ht h15 h1 h2 hb0 hb1 hb2 hK);clear hin hG hE ht hd;go_enter func37,ntmps37
 go_wp2_with fail
 refine HD.out.mono ?_;rintro e w1⟨⟨y,hy⟩,hD⟩;obtain⟨v,rfl,hv⟩:∃v,e=.returned v∧(v=.nilIface∨∃T u,v=.iface T u):=by
  obtain⟨_,h⟩:=hD;cases pend with
  | none=>obtain⟨T,u,e⟩:=h;exact⟨_,e,.inr ⟨_,_,rfl⟩⟩
  | some vs =>
   dsimp only at h;split at h
   ·exact⟨_,h,.inr ⟨_,_,rfl⟩⟩
   ·split at h
    ·obtain⟨T,u,e⟩:=h;exact⟨_,e,.inr ⟨_,_,rfl⟩⟩
    ·exact⟨_,h.1,.inl rfl⟩
 have d2:w1.cell? ⟨db,2,none⟩=some .nilIface:=Qaa hy rfl;have f2:=Qae hy 2;have lt:=Qad hy;have HDD:=Hi hD;clear c2 hy hD;rcases hv with rfl | ⟨T,u,rfl⟩
 all_goals
  go_wp2;go_ret;exact HDD.out.kept (by omega)
end Go.Proofs.Pg
