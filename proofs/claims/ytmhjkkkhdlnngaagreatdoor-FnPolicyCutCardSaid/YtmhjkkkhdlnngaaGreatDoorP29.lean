/- FnPolicyCut, part 29. -/
import Derived.Test.YtmhjkkkhdlnngaaGreatDoorP25
import Derived.Test.YtmhjkkkhdlnngaaGreatDoorP26
import Derived.Test.YtmhjkkkhdlnngaaGreatDoorP27
set_option linter.all false
set_option maxRecDepth 100000
set_option maxHeartbeats 0
namespace Go.Proofs.Pg
theorem QdR(t:List UInt8)(ht:t.length≤1000000):∀(f:Nat)(acc:List Tok)(p:Tok×Sc)(ts:List Tok),Qde t f acc p=some ts→p.1.tx.size≤1000000→(∀k∈acc,k.tx.size≤1000000)→ts.length≤acc.length+f∧∀k∈ts,k.tx.size≤1000000
 | 0,_,_,_,h,_,_=>by cases h
 | f+1,acc,p,ts,h,hp,ha=>by
  rw[Qde]at h;split at h
  ·cases h
  ·split at h
   ·cases h
    refine⟨by rw[List.length_append,List.length_singleton];omega,fun k hk=>?_⟩;rcases List.mem_append.1 hk with hk | hk
    ·exact ha k hk
    ·rw[List.mem_singleton.1 hk];exact Nat.zero_le _
   ·have:=QdR t ht f _ _ _ h (tokSz t ht _) (fun k hk=>by
     rcases List.mem_append.1 hk with hk | hk
     ·exact ha k hk
     ·rw[List.mem_singleton.1 hk];exact hp)
    exact⟨by have h1:=this.1;rw[List.length_append,List.length_singleton]at h1;omega,this.2⟩
theorem QhX{t:List UInt8}{ts:List Tok}(ht:t.length≤800000)(h:toks t=some ts):Good ts:=by
 have h1:=QdR t (by omega) _ _ _ _ h (tokSz t (by omega) _) (fun k hk=>by cases hk);exact⟨QhW h,by have:=h1.1;rw[List.length_nil]at this;omega,h1.2⟩
theorem QdS{L:Lex}:∀(f:Nat)(acc:List (ByteArray×ByteArray))(ts us:Toks)(l:List (ByteArray×ByteArray)),Qb9 L f acc ts=some (l,us)→l.length≤acc.length+f
 | 0,_,_,_,_,he=>by cases he
 | f+1,acc,ts,us,l,he=>by
  rw[Qb9]at he;split at he
  ·split at he
   ·cases he
   ·have:=QdS f _ _ _ _ he
    rw[List.length_append,List.length_singleton]at this;omega
  ·cases he;omega
theorem QeJ{L:Lex}:∀(f:Nat)(acc:List (ByteArray×ByteArray))(ts us:Toks)(l:List (ByteArray×ByteArray)),Qcg L f acc ts=some (l,us)→l.length≤acc.length+f
 | 0,_,_,_,_,he=>by cases he
 | f+1,acc,ts,us,l,he=>by
  rw[Qcg]at he;split at he
  ·cases he;omega
  ·split at he
   ·cases he
   ·split at he
    ·have:=QeJ f _ _ _ _ he
     rw[List.length_append,List.length_singleton]at this;omega
    ·split at he
     ·cases he;rw[List.length_append,List.length_singleton];omega
     ·cases he
theorem QeK{E:Toks→Option (Ex×Toks)}(hE:Sh E)(hO:OkF E):∀(f:Nat)(acc:List (Bool×Ex))(ts us:Toks)(l:List (Bool×Ex)),Good ts→(∀c∈acc,OkE c.2)→Qbh E f acc ts=some (l,us)→l.length≤acc.length+f∧∀c∈l,OkE c.2
 | 0,_,_,_,_,_,_,he=>by cases he
 | f+1,acc,ts,us,l,h,ha,he=>by
  have key:∀(b:Bool)(x:Ex)(vs:Toks),cond E (adv ts)=some (x,vs)→Qbh E f (acc++[(b,x)]) vs=some (l,us)→l.length≤acc.length+(f+1)∧∀c∈l,OkE c.2:=by
   intro b x vs hv he;have h1:=h.adv.sf (Qdr hE h.adv.wf hv);have hx:OkE x:=by
    rw[cond]at hv;split at hv
    ·cases hv
    ·rename_i zs hz
     split at hv
     ·cases hv
     ·rename_i y ws hw
      split at hv
      ·cases hv
      ·cases hv
       exact hO _ _ _ (h.adv.sf (QaC h.adv.wf hz)) hw
   have:=QeK hE hO f _ _ _ _ h1 (fun c hc=>(List.mem_append.1 hc).elim (ha c) (fun k=>by rw[List.mem_singleton.1 k];exact hx)) he;exact⟨by have h9:=this.1;rw[List.length_append,List.length_singleton]at h9;omega,this.2⟩
  rw[Qbh]at he;split at he
  ·split at he
   ·cases he
   ·rename_i x vs hv
    exact key _ _ _ hv he
  ·split at he
   ·split at he
    ·cases he
    ·rename_i x vs hv
     exact key _ _ _ hv he
   ·cases he;exact⟨by omega,ha⟩
theorem QdT{L:Lex}{wd:List UInt8}{ts us:Toks}{s:Scp}(he:Qat L wd ts=some (s,us)):∀l,s≠.inSet l:=by
 intro l hs;subst hs;unfold Qat at he
 repeat' split at he
 all_goals cases he
theorem Qgu{L:Lex}{ts us:Toks}{s:Scp}(h:Good ts)(he:QaI L ts=some (s,us)):∀l,s=.inSet l→l.length≤1000000:=by
 intro l hs;subst hs;unfold QaI at he;split at he
 ·cases he
 ·rename_i vs hv
  have h1:=h.sf (QaC h.wf hv);split at he
  ·split at he<;>cases he
  ·split at he
   ·split at he
    ·split at he
     ·cases he
     ·rename_i z zs hz
      cases he;have:=QeJ _ _ _ _ _ hz;have h9:=h1.adv.adv.len;rw[List.length_nil]at this;omega
    ·split at he<;>cases he
   ·cases he
theorem QhY{L:Lex}{E:Toks→Option (Ex×Toks)}(hE:Sh E)(hO:OkF E){ts us:Toks}{P:Pol}(h:Good ts)(he:Qa2 L E ts=some (P,us)):OkPol P:=by
 unfold Qa2 at he;simp only[Option.bind_eq_some_iff]at he;obtain⟨a,ha,b,hb,t3,h3,c,hc,t5,h5,d,hd,t7,h7,e,he',t10,h10,f,hf,t12,h12,hlast⟩:=he;cases hlast;have g1:=h.sf (Qeb h.wf (l:=a.1) (us:=a.2) ha);have g2:=g1.sf (Qfc g1.wf (b:=b.1) (us:=b.2) hb);have g3:=g2.sf (QaC g2.wf h3);have g4:=g3.sf (Qb6 g3.wf (s:=c.1) (us:=c.2) hc);have g5:=g4.sf (QaC g4.wf h5);have g6:=g5.sf (QcU g5.wf (s:=d.1) (us:=d.2) hd)
 have g7:=g6.sf (QaC g6.wf h7);have g8:=g7.sf (Qb6 g7.wf (s:=e.1) (us:=e.2) he');have g9:Good (Qds e.2):=by unfold Qds;split;exact g8.adv;exact g8
 have g10:=g9.sf (QaC g9.wf h10);have hcs:=QeK hE hO _ _ _ _ _ g10 (fun c hc=>by cases hc) hf;have hns:=QdS _ _ _ _ _ ha;refine⟨?_,?_,hcs.2,fun l hl=>absurd hl (QdT hc l),Qgu g5 hd,fun l hl=>absurd hl (QdT he' l)⟩
 ·have:=h.len;rw[List.length_nil]at hns;show a.1.length≤_;omega
 ·have:=g10.len;have h9:=hcs.1;rw[List.length_nil]at h9;show f.1.length≤_;omega
end Go.Proofs.Pg
namespace Go.Proofs.Pg
open Go.RowKit
attribute [local go_sem] Oper.semAt_some
theorem Qiy{L:Lex}{E:Toks→Option (Ex×Toks)}(hE:Sh E){ts us:Toks}{P:Pol}(h:Wf ts)(he:Qa2 L E ts=some (P,us)):Sf us ts∧us.length<ts.length:=by
 unfold Qa2 at he;simp only[Option.bind_eq_some_iff]at he;obtain⟨a,ha,b,hb,t3,h3,c,hc,t5,h5,d,hd,t7,h7,e,he',t10,h10,f,hf,t12,h12,hlast⟩:=he;cases hlast;have s1:Sf a.2 ts:=Qeb h (l:=a.1) (us:=a.2) ha;have w1:=s1.wf h;have s2:Sf b.2 a.2:=Qfc w1 (b:=b.1) (us:=b.2) hb;have hlt:b.2.length<a.2.length:=by
  unfold effM at hb;split at hb
  ·rename_i hx;cases hb;exact Qax w1 hx (by decide)
  ·split at hb
   ·rename_i hx;cases hb;exact Qax w1 hx (by decide)
   ·cases hb
 have w2:=s2.wf w1;have s3:=QaC w2 h3;have w3:=s3.wf w2;have s4:Sf c.2 t3:=Qb6 w3 (s:=c.1) (us:=c.2) hc;have w4:=s4.wf w3;have s5:=QaC w4 h5;have w5:=s5.wf w4;have s6:Sf d.2 t5:=QcU w5 (s:=d.1) (us:=d.2) hd;have w6:=s6.wf w5;have s7:=QaC w6 h7;have w7:=s7.wf w6;have s8:Sf e.2 t7:=Qb6 w7 (s:=e.1) (us:=e.2) he';have w8:=s8.wf w7;have s9:=Qf1 w8;have w9:=s9.wf w8;have s10:=QaC w9 h10;have w10:=s10.wf w9
 have s11:Sf f.2 t10:=Qdt hE _ _ _ _ _ w10 hf;have w11:=s11.wf w10;have s12:=QaC w11 h12;have st:=s12.trans (s11.trans (s10.trans (s9.trans (s8.trans (s7.trans (s6.trans (s5.trans (s4.trans s3))))))));exact⟨st.trans (s2.trans s1),by have h1:=st.len;have h2:=s1.len;omega⟩
def Qiu(L:Lex)(N:Nat):Nat→List Pol→Toks→Option (List Pol)
 | 0,_,_=>none
 | f+1,acc,ts=>if(ty ts==0)=true then some acc else match Qa2 L (expr L N) ts with
  | none=>none
  | some (P,us)=>Qiu L N f (acc++[P]) us
def Qit(L:Lex)(t:List UInt8):Option (List Pol):=(toks t).bind fun ts=>Qiu L ts.length (ts.length+1) [] ts
theorem PolIs.extG{w w':World}{base B tb:Nat}{TT:TypeId}{P:Pol}{S:Nat→Prop}(h:PolIs w base B tb TT P)(he:Ext S w w')(hs:∀d,S d→d≠tb∧∀T c fr,w.heap[d]? =some (.cells c T fr)→T≠133∧T≠138∧T≠167∧T≠136∧T≠221∧T≠316):PolIs w' base B tb TT P:=by
 obtain⟨pn,cn,prv,acv,rev,pc,cc,cells,h1,h2,h3,h4,h5,h6,h7⟩:=h;refine⟨pn,cn,prv,acv,rev,pc,cc,cells,he.heap (fun h=>(hs _ h).1 rfl) h1,Qb3 h2 he (fun d hd=>.inr fun c fr e=>((hs d hd).2 _ c fr e).1 rfl),h3.ext he (fun d hd=>.inr fun c fr e=>((hs d hd).2 _ c fr e).2.2.1 rfl),h4.ext he (fun d hd=>.inr fun c fr e=>((hs d hd).2 _ c fr e).2.2.1 rfl),h5.ext he (fun d hd=>.inr fun c fr e=>((hs d hd).2 _ c fr e).2.2.1 rfl),Qb3 h6 he (fun d hd=>.inr fun c fr e=>((hs d hd).2 _ c fr e).2.1 rfl),h7.extG he (fun d hd T c fr e=>((hs d hd).2 T c fr e).2.2.2)⟩
def PtsIs(w:World)(base:Nat)(ptrs:List Value)(ps:List Pol):Prop:=ptrs.length=ps.length∧∀(i:Nat) P,ps[i]? =some P→∃tb B,ptrs[i]? =some (.pointer (some ⟨tb,0,none⟩))∧PolIs w base B tb 102 P
theorem PtsIs.nil{w:World}{base:Nat}:PtsIs w base [] []:=⟨rfl,fun i P h=>by simp at h⟩
theorem PtsIs.extG{w w':World}{base:Nat}{ptrs:List Value}{ps:List Pol}{S:Nat→Prop}(h:PtsIs w base ptrs ps)(he:Ext S w w')(hs:∀d,S d→∀T c fr,w.heap[d]? =some (.cells c T fr)→T≠102∧T≠133∧T≠138∧T≠167∧T≠136∧T≠221∧T≠316):PtsIs w' base ptrs ps:=by
 refine⟨h.1,fun i P hi=>?_⟩;obtain⟨tb,B,h1,h2⟩:=h.2 i P hi;refine⟨tb,B,h1,h2.extG he (fun d hd=>⟨fun e=>?_,fun T c fr k=>(hs d hd T c fr k).2⟩)⟩;subst e;obtain⟨_,_,_,_,_,_,_,_,hT,_⟩:=h2;exact(hs _ hd _ _ _ hT).1 rfl
theorem PtsIs.snoc{w:World}{base B tb:Nat}{ptrs:List Value}{ps:List Pol}{P:Pol}(h:PtsIs w base ptrs ps)(hP:PolIs w base B tb 102 P):PtsIs w base (ptrs++[.pointer (some ⟨tb,0,none⟩)]) (ps++[P]):=by
 refine⟨by simp[h.1],fun i Q hi=>?_⟩;by_cases hl:i<ps.length
 ·rw[List.getElem?_append_left hl]at hi
  obtain⟨t,B',h1,h2⟩:=h.2 i Q hi;exact⟨t,B',by rw[List.getElem?_append_left (by have:=h.1;omega)];exact h1,h2⟩
 ·have hi':i=ps.length:=by
   have:=(List.getElem?_eq_some_iff.1 hi).1;simp at this;omega
  subst hi';simp at hi;subst hi;exact⟨tb,B,by rw[←h.1];simp,hP⟩
end Go.Proofs.Pg
namespace Go.Proofs.Pg
open Go.RowKit Go.Proofs.Tryz
attribute [local go_sem] Oper.semAt_some
theorem sl110:SlT prog 110 106 (.pointer none) 1 8:=⟨by kernel_rfl,⟨Tryz.t106,by kernel_rfl,by kernel_rfl,by kernel_rfl,by kernel_rfl⟩,rfl,by decide⟩
def PlRel(L:Lex)(N bp base B:Nat)(w3:World)(Rm:Option (List Pol))(v7:Value)(wr:World):Prop :=
 ∃g acc ptrs vs,Qiu L N g acc vs=Rm∧vs.length<g∧Wf vs∧vs.length≤N∧acc.length+vs.length≤N∧PS wr bp base vs∧wr.ownsRow B 106 1 v7 acc.length ptrs∧PtsIs wr base ptrs acc∧Ext (fun d=>d=bp) w3 wr
theorem Qi1{w:World}{B:Nat}{e:TypeId}{sz:Nat}{v:Value}{n d:Nat}{xs:List Value}(h:w.ownsRow B e sz v n xs)(hd:v.ownBlock=some d):∃c,w.heap[d]? =some (.cells c e (0,0)):=by
 rcases h.2 with⟨rfl,_⟩ | ⟨g,cap,cur,rfl,_,hg,_⟩
 ·cases hd
 ·cases hd;exact⟨cur,hg⟩
theorem ps_tag{w:World}{bp base:Nat}{ts:Toks}(h:PS w bp base ts):∃c,w.heap[bp]? =some (.cells c 142 (0,0)):=by
 obtain⟨_,_,_,_,_,_,hb,_⟩:=h.ex;exact⟨_,hb⟩
theorem PtsIs.bp{w w':World}{bp base:Nat}{ts:Toks}{ptrs:List Value}{ps:List Pol}(h:PtsIs w base ptrs ps)(hp:PS w bp base ts)(he:Ext (fun d=>d=bp) w w'):PtsIs w' base ptrs ps:=h.extG he (fun d hd T c fr k=>by
 subst hd;obtain⟨c',hc'⟩:=ps_tag hp;rw[hc']at k;cases k;decide)
theorem own_bp{w w':World}{bp base B:Nat}{ts:Toks}{v:Value}{n:Nat}{xs:List Value}(h:w.ownsRow B 106 1 v n xs)(hp:PS w bp base ts)(he:Ext (fun d=>d=bp) w w'):w'.ownsRow B 106 1 v n xs:=Qb3 h he (fun d hd=>.inr fun c fr k=>by
 subst hd;obtain⟨c',hc'⟩:=ps_tag hp;rw[hc']at k;cases k)
theorem PtsIs.grow{w w':World}{base B:Nat}{v:Value}{n:Nat}{xs ptrs:List Value}{ps:List Pol}(h:PtsIs w base ptrs ps)(ho:w.ownsRow B 106 1 v n xs)(hg:w.grownBy w' v.ownBlock):PtsIs w' base ptrs ps:=h.extG (QaF ho hg) (fun d hd T c fr k=>by
 obtain⟨c',hc'⟩:=Qi1 ho hd;rw[hc']at k;cases k;decide)
theorem PolIs.grow{w w':World}{base B0 B tb:Nat}{P:Pol}{v:Value}{n:Nat}{xs:List Value}(h:PolIs w base B0 tb 102 P)(ho:w.ownsRow B 106 1 v n xs)(hg:w.grownBy w' v.ownBlock):PolIs w' base B0 tb 102 P:=h.extG (QaF ho hg) (fun d hd=>by
 obtain⟨c',hc'⟩:=Qi1 ho hd;refine⟨fun e=>?_,fun T c fr k=>by rw[hc']at k;cases k;decide⟩;subst e;obtain⟨_,_,_,_,_,_,_,_,hT,_⟩:=h;rw[hc']at hT;cases hT)
def PlP(sb:Nat)(w:World)(R:Option (List Pol))(e:Ending)(w':World):Prop :=
 Ext (fun d=>d=sb) w w'∧match R with
 | none=>∃T v,e=.returned (.iface T v)
 | some ps=>e=.returned .nilIface∧∃base B ptrs p c,w.heap.size≤base∧w.heap.size≤B∧w'.heap[sb]? =some (.cells #[.slice p ps.length c] 110 (0,0))∧w'.ownsRow B 106 1 (.slice p ps.length c) ps.length ptrs∧PtsIs w' base ptrs ps
theorem uns_c{L:Lex}(hL:LexC L)(hext:∀s,L.ext s=(extM s).map (·.2)){t:List UInt8}{w:World}{sb d o n cap:Nat}{cu:Array Value}{T:TypeId}{fr:Nat×Nat}(ht:w.heap[sb]? =some (.cells #[.slice none 0 0] 110 (0,0)))(hsb:15≤sb)
  (hc:w.heap[d]? =some (.cells cu T fr))(hsz:o+n≤cu.size)(hb:(cu.toList.drop o).take t.length=Lib.byteCells t)(hn:t.length=n)(hl:n≤900000)(hnc:n≤cap)(hcap:cap≤maxLen)(hG:Glob w)(hE:∃a,w.cell? ⟨0,0,none⟩=some (.iface 346 (.pointer (some a))))(h15:15≤w.heap.size) :
  Calls prog 39 #[.pointer (some ⟨sb,0,none⟩),.slice (some ⟨d,o,none⟩) n cap] w (PlP sb w (Qit L t)):=by
 have hlt:=Qad ht;have HT:=Hi ht;clear ht;have HLL:=Hi hL;clear hL;have HEX:=Hi hext;clear hext;go_enter func39,ntmps39
 go_wp2_with fail
 refine(tokz_c hc hsz hb hn hl hnc hcap hG.tabs hE (by omega)).mono ?_;rintro e w1⟨X1,h1⟩;clear hc hsz hb hE;cases htk:toks t with
 | none =>
  rw[htk]at h1;have HPO:Hid (Qit L t=none):=Hi (by unfold Qit;rw[htk];rfl);obtain⟨T',p,rfl⟩:=h1;clear htk
  go_wp2_with fail
  go_ret;rw[HPO.out];exact⟨⟨X1.os,X1.tape,X1.output,X1.size,fun x hx hne=>X1.block x hx (by omega),X1.ok⟩,_,_,rfl⟩
 | some ts =>
  rw[htk]at h1;obtain⟨g,cp,rfl,hg1,⟨cur,hg2,hg3⟩,hg4,hg5⟩:=h1;have HWF:=Hi (QhW htk);have HPO:Hid (Qit L t=Qiu L ts.length (ts.length+1) [] ts):=Hi (by unfold Qit;rw[htk];rfl);clear htk
  go_wp2_with fail
  refine(newp_c w1 _ _ _).mono ?_;rintro e w2⟨rfl,B2⟩
  go_upto_region 6 with(fail)
  refine Qba fun w3 hw3=>?_
  have hb3:w3.heap[w2.heap.size]? =some (.cells #[.slice (some ⟨g,0,none⟩) ts.length cp,.int .i64 0] 142 (0,0)):=hw3▸Xa w2 _;have B3:Below w2.heap.size w2 w3:=hw3▸Qab w2 _;have hz3:w3.heap.size=w2.heap.size+1:=by rw[hw3];simp
  clear hw3;have X13:Ext (fun _=>False) w1 w3:=(Ext.below B2).trans (.below B3);have X3:Ext (fun x=>x=w.heap.size) w w3:=X1.trans (X13.mono fun _ h=>h.elim);have hg3':=X13.heap (fun h=>h) hg2;have hglt:=Qad hg2;have h12:=B2.size;have h01:=X1.size;have ht3:=X3.heap (show ¬sb=w.heap.size by omega) HT.out;have hG3:Glob w3:=hG.ext X3 (fun d hd=>by subst hd;omega) (by omega);have hne:ts≠[]:=fun e=>by have:=HWF.out;rw[e]at this;exact this
  have hp:PS w3 w2.heap.size w3.heap.size ts:=PS.of (bt:=g) (off:=0) (n:=ts.length) (cap:=cp) (k:=0) (by omega) hb3 (by omega) (by omega) (by omega) hne (fun i t' hi=>by rw[Nat.zero_add,Nat.zero_add];exact QhU hg3' hg3 hg4 i t' hi) (by omega) (by omega) hG3 (by omega) (Xb _);have HX3:=Hi X3;have HS3:=Hi ht3;clear hg3' hg2 hg3 hb3 X13 X1 X3 ht3;obtain⟨bp,hbp⟩:∃bp,w2.heap.size=bp:=⟨_,rfl⟩
  have hbpg:w.heap.size≤bp:=by omega
  rw[hbp]at hp ⊢;have HY:Hid (∀w',Ext (fun d=>d=bp) w3 w'→Ext (fun d=>d=sb∨w.heap.size≤d) w w'):=Hi fun w' h=>(HX3.out.mono fun d hd=>.inr (by omega)).trans' h (fun d hd=>.inl (.inr (by subst hd;exact hbpg)))
  have HQ:Hid (PlRel L ts.length bp w3.heap.size w3.heap.size w3 (Qiu L ts.length (ts.length+1) [] ts) (.slice none 0 0) w3):=Hi ⟨ts.length+1,[],[],ts,rfl,by omega,HWF.out,Xb _,by simp,hp,⟨rfl,.inl ⟨rfl,rfl⟩⟩,.nil,.refl _ _⟩
  go_loopw [7] (fun v7 wr=>PlRel L ts.length bp w3.heap.size w3.heap.size w3 (Qiu L ts.length (ts.length+1) [] ts) v7 wr) (fun _ wr=>left wr bp)
  case atStart=>exact HQ.out
  case round =>
   clear HQ hp;obtain⟨g',acc,ptrs,vs,hg,hgl,hvw,hvN,haN,hpw,hO,hPt,hXr⟩:=hrel;have HG:=Hi hg;clear hg;cases g' with
   | zero=>omega
   | succ g' =>
   obtain⟨u,q,rfl⟩:∃u q,vs=u::q:=by cases vs with | nil=>exact absurd rfl hpw.ne | cons u q=>exact⟨u,q,rfl⟩
   have hsr:=hXr.size;have HH:=Hi (Xc hpw (Xc hO (Xc hPt hXr)));obtain⟨p7,c7,rfl,_⟩:=RwU.own hO;clear hO hPt hXr
   go_wp2_with fail
   refine(Qa7 hpw).mono ?_;rintro e wa⟨rfl,Ba⟩
   go_wp2_with fail
   refine(isEOF_c u _).mono ?_;rintro e wb⟨rfl,Bb⟩;have Bw:Below wr.heap.size wr wb:=Ba.trans (Bb.mono Ba.size);have hszb:=Bw.size;have HB:=Hi (Xc (HH.out.1.below Bw) (Xc (Qb3 (S:=fun _=>False) HH.out.2.1 (.below Bw) (fun _ h=>h.elim)) (Xc (HH.out.2.2.1.extG (S:=fun _=>False) (.below Bw) (fun _ h=>h.elim)) (HH.out.2.2.2.trans (.below Bw)))));clear Ba Bb Bw hpw;cases hi:(u.ty==0)with
   | true =>
    have HR:=Hi (show Qiu L ts.length (ts.length+1) [] ts=some acc by rw[←HG.out,Qiu,if_pos (show(ty (u::q)==0)=true from hi)]);have hcb:=HB.out.2.2.2.heap (show ¬sb=bp by omega) HS3.out;have c0:wb.cell? ⟨sb,0,none⟩=some (.slice none 0 0):=Qaa hcb rfl;have f0:=Qae hcb 0;have HCB:=Hi hcb;clear hcb hi
    go_wp2_with fail
    go_ret;rw[HPO.out,HR.out];have hS:Ext (fun d=>d=sb) wb (wb.setCell ⟨sb,0,none⟩ (.slice p7 acc.length c7)):=(Ext.refl (fun d=>d=sb) wb).set (p:=⟨sb,0,none⟩) (.inl rfl) _;have X1:=HY.out _ HB.out.2.2.2;have X2:=X1.trans' hS (fun d hd=>.inl (.inl hd));refine⟨?_,rfl,w3.heap.size,w3.heap.size,ptrs,p7,c7,by omega,by omega,Qac (o:=0) HCB.out _,?_,?_⟩
    ·exact⟨X2.os,X2.tape,X2.output,X2.size,fun x hx hne=>X2.block x hx (fun h=>h.elim hne (fun h=>by omega)),X2.ok⟩
    ·exact Qb3 HB.out.2.1 hS (fun d hd=>.inr fun c fr k=>by subst hd;rw[HCB.out]at k;cases k)
    ·exact HB.out.2.2.1.extG hS (fun d hd T c fr k=>by subst hd;rw[HCB.out]at k;cases k;decide)
   | false =>
    go_upto_region 8 with(fail)
    refine Qba fun wc hwc=>?_
    have Bc:Below wb.heap.size wb wc:=hwc▸Qab wb _;have htc:wc.heap[wb.heap.size]? =some (.cells pol0 102 (0,0)):=hwc▸Xa wb _;have hzc:wc.heap.size=wb.heap.size+1:=by rw[hwc];simp
    clear hwc;have hpc:=HB.out.1.below Bc
    go_wp2_with fail
    refine(policy_w HLL.out (QdZ ts.length) (expr_c HLL.out HEX.out ts.length) wc (u::q) hpc hvw hvN (by omega) (.inl (by omega)) (by decide) htc).mono ?_;rintro e w5⟨X5,h5⟩;have X5':Ext (fun d=>d=bp) wb w5:=(Ext.below Bc).trans' X5 (fun d hd=>hd.elim .inl (fun h=>.inr (by omega)));have hsz5:=X5'.size;clear hpc htc Bc;cases hpm:Qa2 L (expr L ts.length) (u::q)with
    | none =>
     rw[hpm]at h5;obtain⟨T',v',rfl⟩:=h5;have HR:=Hi (show Qiu L ts.length (ts.length+1) [] ts=none by rw[←HG.out,Qiu,if_neg (show ¬(ty (u::q)==0)=true by rw[show ty (u::q)=u.ty from rfl,hi];simp),hpm]);have X1:=HY.out _ (HB.out.2.2.2.trans X5');have HX1:=Hi X1;clear hpm hi X5 X5' X1
     go_wp2_with fail
     go_ret;rw[HPO.out,HR.out];exact⟨⟨HX1.out.os,HX1.out.tape,HX1.out.output,HX1.out.size,fun x hx hne=>HX1.out.block x hx (fun h=>h.elim hne (fun h=>by omega)),HX1.out.ok⟩,_,_,rfl⟩
    | some r =>
     obtain⟨P,us⟩:=r;rw[hpm]at h5;obtain⟨rfl,hps,hpol⟩:=h5;have hlt2:=Qiy (QdZ ts.length) hvw hpm;have hNX:Qiu L ts.length g' (acc++[P]) us=Qiu L ts.length (ts.length+1) [] ts:=by rw[←HG.out,Qiu,if_neg (show ¬(ty (u::q)==0)=true by rw[show ty (u::q)=u.ty from rfl,hi];simp),hpm]
     have hO5:=own_bp HB.out.2.1 HB.out.1 X5';have hP5:=HB.out.2.2.1.bp HB.out.1 X5';have HF:=Hi (Xc hO5 (Xc hP5 (Xc hps (Xc hpol (Xc (HB.out.2.2.2.trans X5') (Xc hNX hlt2))))));have hul:us.length<(u::q).length:=hlt2.2;clear hpm hi X5 X5' hO5 hP5 hps hpol hNX hlt2
     go_wp2_with(at_builtin;refine appG sl110 rfl _ _ rfl w3.heap.size _ _ _ rfl (Qbs HF.out.1 _) _ [.pointer (some ⟨wb.heap.size,0,none⟩)] rfl rfl (QaD (Qaa (Xa w5 _) rfl)) (fun v hv=>by rw[List.mem_singleton.1 hv];rfl) (by unfold maxLen;omega) (by omega) (by simp;omega) ?_)
     intro v8 w8 hO8 hg8 _;have Ba:=Qab w5 (.cells #[.pointer (some ⟨wb.heap.size,0,none⟩)] 106);have hOa:=Qbs HF.out.1 (.cells #[.pointer (some ⟨wb.heap.size,0,none⟩)] 106);have hPS:PS w8 bp w3.heap.size us:=(HF.out.2.2.1.below Ba).grow hOa hg8 (Xb _);have hPT:PtsIs w8 w3.heap.size (ptrs++[.pointer (some ⟨wb.heap.size,0,none⟩)]) (acc++[P]):=(((HF.out.2.1.extG (S:=fun _=>False) (.below Ba) (fun _ h=>h.elim)).grow hOa hg8).snoc ((HF.out.2.2.2.1.extG (S:=fun _=>False) (.below Ba) (fun _ h=>h.elim)).grow hOa hg8))
     have hX8:Ext (fun d=>d=bp) w3 w8:=(HF.out.2.2.2.2.1.trans (.below Ba)).grow hOa hg8 (Xb _);have HEND:Hid (PlRel L ts.length bp w3.heap.size w3.heap.size w3 (Qiu L ts.length (ts.length+1) [] ts) v8 w8):=Hi ⟨g',acc++[P],_,us,HF.out.2.2.2.2.2.1,by omega,HF.out.2.2.2.2.2.2.1.wf hvw,by omega,by simp;omega,hPS,by rw[show(acc++[P]).length=acc.length+1 by simp,show w3.heap.size=bp+1 by omega];exact hO8,hPT,hX8⟩
     have HLF:=Hi (show left w8 bp<left wr bp by rw[hPS.left,HH.out.1.left];exact hul);clear hO8 hg8 Ba hOa hPS hPT hX8
     go_wp2_with fail
     go_roundw
     case rel=>exact HEND.out
     case measure=>exact HLF.out
end Go.Proofs.Pg
