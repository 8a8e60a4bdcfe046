/- FnDecodeAll, part 32. -/
import Derived.Test.YtmhjkkkhdlnngaaGreatDoorZ31
set_option linter.all false
set_option maxRecDepth 100000
set_option maxHeartbeats 0
namespace Go.Proofs.Pg
open Go.RowKit Go.Proofs.Tryz
attribute [local go_sem] Oper.semAt_some
theorem sl110:SlT prog 110 106 (.pointer none) 1 8:=⟨by kernel_rfl,⟨Tryz.t106,by kernel_rfl,by kernel_rfl,by kernel_rfl,by kernel_rfl⟩,rfl,by decide⟩
def PlRel(L:Lex)(N bp base B:Nat)(w3:World)(Rm:Option (List Pol))(v7:Value)(wr:World):Prop :=
 ∃g acc ptrs vs,Qiu L N g acc vs=Rm∧vs.length<g∧Wf vs∧vs.length≤N∧acc.length+vs.length≤N∧PS wr bp base vs∧wr.ownsRow B 106 1 v7 acc.length ptrs∧PtsIs wr base ptrs acc∧Ext (fun d=>d=bp) w3 wr
theorem Qi1{w:World}{B:Nat}{e:TypeId}{sz:Nat}{v:Value}{n d:Nat}{xs:List Value}(h:w.ownsRow B e sz v n xs)(hd:v.ownBlock=some d):∃c,w.heap[d]? =some (.cells c e (0,0)):=by
 rcases h.2 with⟨rfl,_⟩ | ⟨g,cap,cur,rfl,_,hg,_⟩
 ·cases hd
 ·cases hd;exact⟨cur,hg⟩
theorem ps_tag{w:World}{bp base:Nat}{ts:Toks}(h:PS w bp base ts):∃c,w.heap[bp]? =some (.cells c 142 (0,0)):=by
 obtain⟨_,_,_,_,_,_,hb,_⟩:=h.ex;exact⟨_,hb⟩
theorem PtsIs.bp{w w':World}{bp base:Nat}{ts:Toks}{ptrs:List Value}{ps:List Pol}(h:PtsIs w base ptrs ps)(hp:PS w bp base ts)(he:Ext (fun d=>d=bp) w w'):PtsIs w' base ptrs ps:=h.extG he (fun d hd T c fr k=>by
 subst hd;obtain⟨c',hc'⟩:=ps_tag hp;rw[hc']at k;cases k;decide)
theorem own_bp{w w':World}{bp base B:Nat}{ts:Toks}{v:Value}{n:Nat}{xs:List Value}(h:w.ownsRow B 106 1 v n xs)(hp:PS w bp base ts)(he:Ext (fun d=>d=bp) w w'):w'.ownsRow B 106 1 v n xs:=Qb3 h he (fun d hd=>.inr fun c fr k=>by
 subst hd;obtain⟨c',hc'⟩:=ps_tag hp;rw[hc']at k;cases k)
theorem PtsIs.grow{w w':World}{base B:Nat}{v:Value}{n:Nat}{xs ptrs:List Value}{ps:List Pol}(h:PtsIs w base ptrs ps)(ho:w.ownsRow B 106 1 v n xs)(hg:w.grownBy w' v.ownBlock):PtsIs w' base ptrs ps:=h.extG (QaF ho hg) (fun d hd T c fr k=>by
 obtain⟨c',hc'⟩:=Qi1 ho hd;rw[hc']at k;cases k;decide)
theorem PolIs.grow{w w':World}{base B0 B tb:Nat}{P:Pol}{v:Value}{n:Nat}{xs:List Value}(h:PolIs w base B0 tb 102 P)(ho:w.ownsRow B 106 1 v n xs)(hg:w.grownBy w' v.ownBlock):PolIs w' base B0 tb 102 P:=h.extG (QaF ho hg) (fun d hd=>by
 obtain⟨c',hc'⟩:=Qi1 ho hd;refine⟨fun e=>?_,fun T c fr k=>by rw[hc']at k;cases k;decide⟩;subst e;obtain⟨_,_,_,_,_,_,_,_,hT,_⟩:=h;rw[hc']at hT;cases hT)
def PlP(sb:Nat)(w:World)(R:Option (List Pol))(e:Ending)(w':World):Prop :=
 Ext (fun d=>d=sb) w w'∧match R with
 | none=>∃T v,e=.returned (.iface T v)
 | some ps=>e=.returned .nilIface∧∃base B ptrs p c,w.heap.size≤base∧w.heap.size≤B∧w'.heap[sb]? =some (.cells #[.slice p ps.length c] 110 (0,0))∧w'.ownsRow B 106 1 (.slice p ps.length c) ps.length ptrs∧PtsIs w' base ptrs ps
theorem uns_c{L:Lex}(hL:LexC L)(hext:∀s,L.ext s=(extM s).map (·.2)){t:List UInt8}{w:World}{sb d o n cap:Nat}{cu:Array Value}{T:TypeId}{fr:Nat×Nat}(ht:w.heap[sb]? =some (.cells #[.slice none 0 0] 110 (0,0)))(hsb:15≤sb)
  (hc:w.heap[d]? =some (.cells cu T fr))(hsz:o+n≤cu.size)(hb:(cu.toList.drop o).take t.length=Lib.byteCells t)(hn:t.length=n)(hl:n≤900000)(hnc:n≤cap)(hcap:cap≤maxLen)(hG:Glob w)(hE:∃a,w.cell? ⟨0,0,none⟩=some (.iface 346 (.pointer (some a))))(h15:15≤w.heap.size) :
  Calls prog 39 #[.pointer (some ⟨sb,0,none⟩),.slice (some ⟨d,o,none⟩) n cap] w (PlP sb w (Qit L t)):=by
 have hlt:=Qad ht;have HT:=Hi ht;clear ht;have HLL:=Hi hL;clear hL;have HEX:=Hi hext;clear hext;go_enter func39,ntmps39
 go_wp2_with fail
 refine(tokz_c hc hsz hb hn hl hnc hcap hG.tabs hE (by omega)).mono ?_;rintro e w1⟨X1,h1⟩;clear hc hsz hb hE;cases htk:toks t with
 | none =>
  rw[htk]at h1;have HPO:Hid (Qit L t=none):=Hi (by unfold Qit;rw[htk];rfl);obtain⟨T',p,rfl⟩:=h1;clear htk
  go_wp2_with fail
  go_ret;rw[HPO.out];exact⟨⟨X1.os,X1.tape,X1.output,X1.size,fun x hx hne=>X1.block x hx (by omega),X1.ok⟩,_,_,rfl⟩
 | some ts =>
  rw[htk]at h1;obtain⟨g,cp,rfl,hg1,⟨cur,hg2,hg3⟩,hg4,hg5⟩:=h1;have HWF:=Hi (QhW htk);have HPO:Hid (Qit L t=Qiu L ts.length (ts.length+1) [] ts):=Hi (by unfold Qit;rw[htk];rfl);clear htk
  go_wp2_with fail
  refine(newp_c w1 _ _ _).mono ?_;rintro e w2⟨rfl,B2⟩
  go_upto_region 6 with(fail)
  refine Qba fun w3 hw3=>?_
  have hb3:w3.heap[w2.heap.size]? =some (.cells #[.slice (some ⟨g,0,none⟩) ts.length cp,.int .i64 0] 142 (0,0)):=hw3▸Xa w2 _;have B3:Below w2.heap.size w2 w3:=hw3▸Qab w2 _;have hz3:w3.heap.size=w2.heap.size+1:=by rw[hw3];simp
  clear hw3;have X13:Ext (fun _=>False) w1 w3:=(Ext.below B2).trans (.below B3);have X3:Ext (fun x=>x=w.heap.size) w w3:=X1.trans (X13.mono fun _ h=>h.elim);have hg3':=X13.heap (fun h=>h) hg2;have hglt:=Qad hg2;have h12:=B2.size;have h01:=X1.size;have ht3:=X3.heap (show ¬sb=w.heap.size by omega) HT.out;have hG3:Glob w3:=hG.ext X3 (fun d hd=>by subst hd;omega) (by omega);have hne:ts≠[]:=fun e=>by have:=HWF.out;rw[e]at this;exact this
  have hp:PS w3 w2.heap.size w3.heap.size ts:=PS.of (bt:=g) (off:=0) (n:=ts.length) (cap:=cp) (k:=0) (by omega) hb3 (by omega) (by omega) (by omega) hne (fun i t' hi=>by rw[Nat.zero_add,Nat.zero_add];exact QhU hg3' hg3 hg4 i t' hi) (by omega) (by omega) hG3 (by omega) (Xb _);have HX3:=Hi X3;have HS3:=Hi ht3;clear hg3' hg2 hg3 hb3 X13 X1 X3 ht3;obtain⟨bp,hbp⟩:∃bp,w2.heap.size=bp:=⟨_,rfl⟩
  have hbpg:w.heap.size≤bp:=by omega
  rw[hbp]at hp ⊢;have HY:Hid (∀w',Ext (fun d=>d=bp) w3 w'→Ext (fun d=>d=sb∨w.heap.size≤d) w w'):=Hi fun w' h=>(HX3.out.mono fun d hd=>.inr (by omega)).trans' h (fun d hd=>.inl (.inr (by subst hd;exact hbpg)))
  have HQ:Hid (PlRel L ts.length bp w3.heap.size w3.heap.size w3 (Qiu L ts.length (ts.length+1) [] ts) (.slice none 0 0) w3):=Hi ⟨ts.length+1,[],[],ts,rfl,by omega,HWF.out,Xb _,by simp,hp,⟨rfl,.inl ⟨rfl,rfl⟩⟩,.nil,.refl _ _⟩
  go_loopw [7] (fun v7 wr=>PlRel L ts.length bp w3.heap.size w3.heap.size w3 (Qiu L ts.length (ts.length+1) [] ts) v7 wr) (fun _ wr=>left wr bp)
  case atStart=>exact HQ.out
  case round =>
   clear HQ hp;obtain⟨g',acc,ptrs,vs,hg,hgl,hvw,hvN,haN,hpw,hO,hPt,hXr⟩:=hrel;have HG:=Hi hg;clear hg;cases g' with
   | zero=>omega
   | succ g' =>
   obtain⟨u,q,rfl⟩:∃u q,vs=u::q:=by cases vs with | nil=>exact absurd rfl hpw.ne | cons u q=>exact⟨u,q,rfl⟩
   have hsr:=hXr.size;have HH:=Hi (Xc hpw (Xc hO (Xc hPt hXr)));obtain⟨p7,c7,rfl,_⟩:=RwU.own hO;clear hO hPt hXr
   go_wp2_with fail
   refine(Qa7 hpw).mono ?_;rintro e wa⟨rfl,Ba⟩
   go_wp2_with fail
   refine(QiL u _).mono ?_;rintro e wb⟨rfl,Bb⟩;have Bw:Below wr.heap.size wr wb:=Ba.trans (Bb.mono Ba.size);have hszb:=Bw.size;have HB:=Hi (Xc (HH.out.1.below Bw) (Xc (Qb3 (S:=fun _=>False) HH.out.2.1 (.below Bw) (fun _ h=>h.elim)) (Xc (HH.out.2.2.1.extG (S:=fun _=>False) (.below Bw) (fun _ h=>h.elim)) (HH.out.2.2.2.trans (.below Bw)))));clear Ba Bb Bw hpw;cases hi:(u.ty==0)with
   | true =>
    have HR:=Hi (show Qiu L ts.length (ts.length+1) [] ts=some acc by rw[←HG.out,Qiu,if_pos (show(ty (u::q)==0)=true from hi)]);have hcb:=HB.out.2.2.2.heap (show ¬sb=bp by omega) HS3.out;have c0:wb.cell? ⟨sb,0,none⟩=some (.slice none 0 0):=Qaa hcb rfl;have f0:=Qae hcb 0;have HCB:=Hi hcb;clear hcb hi
    go_wp2_with fail
    go_ret;rw[HPO.out,HR.out];have hS:Ext (fun d=>d=sb) wb (wb.setCell ⟨sb,0,none⟩ (.slice p7 acc.length c7)):=(Ext.refl (fun d=>d=sb) wb).set (p:=⟨sb,0,none⟩) (.inl rfl) _;have X1:=HY.out _ HB.out.2.2.2;have X2:=X1.trans' hS (fun d hd=>.inl (.inl hd));refine⟨?_,rfl,w3.heap.size,w3.heap.size,ptrs,p7,c7,by omega,by omega,Qac (o:=0) HCB.out _,?_,?_⟩
    ·exact⟨X2.os,X2.tape,X2.output,X2.size,fun x hx hne=>X2.block x hx (fun h=>h.elim hne (fun h=>by omega)),X2.ok⟩
    ·exact Qb3 HB.out.2.1 hS (fun d hd=>.inr fun c fr k=>by subst hd;rw[HCB.out]at k;cases k)
    ·exact HB.out.2.2.1.extG hS (fun d hd T c fr k=>by subst hd;rw[HCB.out]at k;cases k;decide)
   | false =>
    go_upto_region 8 with(fail)
    refine Qba fun wc hwc=>?_
    have Bc:Below wb.heap.size wb wc:=hwc▸Qab wb _;have htc:wc.heap[wb.heap.size]? =some (.cells pol0 102 (0,0)):=hwc▸Xa wb _;have hzc:wc.heap.size=wb.heap.size+1:=by rw[hwc];simp
    clear hwc;have hpc:=HB.out.1.below Bc
    go_wp2_with fail
    refine(Qi8 HLL.out (QdZ ts.length) (QiP HLL.out HEX.out ts.length) wc (u::q) hpc hvw hvN (by omega) (.inl (by omega)) (by decide) htc).mono ?_;rintro e w5⟨X5,h5⟩;have X5':Ext (fun d=>d=bp) wb w5:=(Ext.below Bc).trans' X5 (fun d hd=>hd.elim .inl (fun h=>.inr (by omega)));have hsz5:=X5'.size;clear hpc htc Bc;cases hpm:Qa2 L (expr L ts.length) (u::q)with
    | none =>
     rw[hpm]at h5;obtain⟨T',v',rfl⟩:=h5;have HR:=Hi (show Qiu L ts.length (ts.length+1) [] ts=none by rw[←HG.out,Qiu,if_neg (show ¬(ty (u::q)==0)=true by rw[show ty (u::q)=u.ty from rfl,hi];simp),hpm]);have X1:=HY.out _ (HB.out.2.2.2.trans X5');have HX1:=Hi X1;clear hpm hi X5 X5' X1
     go_wp2_with fail
     go_ret;rw[HPO.out,HR.out];exact⟨⟨HX1.out.os,HX1.out.tape,HX1.out.output,HX1.out.size,fun x hx hne=>HX1.out.block x hx (fun h=>h.elim hne (fun h=>by omega)),HX1.out.ok⟩,_,_,rfl⟩
    | some r =>
     obtain⟨P,us⟩:=r;rw[hpm]at h5;obtain⟨rfl,hps,hpol⟩:=h5;have hlt2:=Qiy (QdZ ts.length) hvw hpm;have hNX:Qiu L ts.length g' (acc++[P]) us=Qiu L ts.length (ts.length+1) [] ts:=by rw[←HG.out,Qiu,if_neg (show ¬(ty (u::q)==0)=true by rw[show ty (u::q)=u.ty from rfl,hi];simp),hpm]
     have hO5:=own_bp HB.out.2.1 HB.out.1 X5';have hP5:=HB.out.2.2.1.bp HB.out.1 X5';have HF:=Hi (Xc hO5 (Xc hP5 (Xc hps (Xc hpol (Xc (HB.out.2.2.2.trans X5') (Xc hNX hlt2))))));have hul:us.length<(u::q).length:=hlt2.2;clear hpm hi X5 X5' hO5 hP5 hps hpol hNX hlt2
     go_wp2_with(at_builtin;refine appG sl110 rfl _ _ rfl w3.heap.size _ _ _ rfl (Qbs HF.out.1 _) _ [.pointer (some ⟨wb.heap.size,0,none⟩)] rfl rfl (QaD (Qaa (Xa w5 _) rfl)) (fun v hv=>by rw[List.mem_singleton.1 hv];rfl) (by unfold maxLen;omega) (by omega) (by simp;omega) ?_)
     intro v8 w8 hO8 hg8 _;have Ba:=Qab w5 (.cells #[.pointer (some ⟨wb.heap.size,0,none⟩)] 106);have hOa:=Qbs HF.out.1 (.cells #[.pointer (some ⟨wb.heap.size,0,none⟩)] 106);have hPS:PS w8 bp w3.heap.size us:=(HF.out.2.2.1.below Ba).grow hOa hg8 (Xb _);have hPT:PtsIs w8 w3.heap.size (ptrs++[.pointer (some ⟨wb.heap.size,0,none⟩)]) (acc++[P]):=(((HF.out.2.1.extG (S:=fun _=>False) (.below Ba) (fun _ h=>h.elim)).grow hOa hg8).snoc ((HF.out.2.2.2.1.extG (S:=fun _=>False) (.below Ba) (fun _ h=>h.elim)).grow hOa hg8))
     have hX8:Ext (fun d=>d=bp) w3 w8:=(HF.out.2.2.2.2.1.trans (.below Ba)).grow hOa hg8 (Xb _);have HEND:Hid (PlRel L ts.length bp w3.heap.size w3.heap.size w3 (Qiu L ts.length (ts.length+1) [] ts) v8 w8):=Hi ⟨g',acc++[P],_,us,HF.out.2.2.2.2.2.1,by omega,HF.out.2.2.2.2.2.2.1.wf hvw,by omega,by simp;omega,hPS,by rw[show(acc++[P]).length=acc.length+1 by simp,show w3.heap.size=bp+1 by omega];exact hO8,hPT,hX8⟩
     have HLF:=Hi (show left w8 bp<left wr bp by rw[hPS.left,HH.out.1.left];exact hul);clear hO8 hg8 Ba hOa hPS hPT hX8
     go_wp2_with fail
     go_roundw
     case rel=>exact HEND.out
     case measure=>exact HLF.out
end Go.Proofs.Pg
