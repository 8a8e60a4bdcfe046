/- FnComma: a last comma changes nothing; for every world. Part 37. -/
import Derived.Test.YtmhjkkkhdlnngaaGreatDoorZ36
set_option linter.all false
set_option maxRecDepth 100000
set_option maxHeartbeats 40000000
namespace Go.Proofs.Pg
open Go.RowKit
attribute [local go_sem] Oper.semAt_some
theorem skip_c{w:World}{bp base:Nat}{t:Tok}{ts:List Tok}(hp:PS w bp base (t::ts)) :
  Calls Tryz.prog 74 #[.pointer (some ⟨bp,0,none⟩),.string ⟨#[44]⟩] w fun e w'=>e=.returned (.tuple #[])∧PS w' bp base (Qds (t::ts))∧Ext (·=bp) w w':=by
 have e:(⟨#[44]⟩:ByteArray).toList=[44]:=by rw[ByteArray.toList_eq]
 unfold Qds;cases h:(t.tx.toList==[44])with
 | true=>simpa [tx,h]using skip_yes hp ⟨#[44]⟩ (by rw[e];exact h)
 | false=>simpa [tx,h]using skip_no hp ⟨#[44]⟩ (by rw[e];exact h)
theorem ten_set{w:World}{b:Nat}{TT:TypeId}{c0 c1 c2 c3 c4 c5 c6 c7 c8 c9:Value}(x0 x1 x2 x3 x4 x5 x6 x7 x8 x9:Value)(h0:w.heap[b]? =some (.cells #[c0,c1,c2,c3,c4,c5,c6,c7,c8,c9] TT (0,0))) :
  ((((((((((w.setCell ⟨b,0,none⟩ x0).setCell ⟨b,1,none⟩ x1).setCell ⟨b,2,none⟩ x2).setCell ⟨b,3,none⟩ x3).setCell ⟨b,4,none⟩ x4).setCell ⟨b,5,none⟩ x5).setCell ⟨b,6,none⟩ x6).setCell ⟨b,7,none⟩ x7).setCell ⟨b,8,none⟩ x8).setCell ⟨b,9,none⟩ x9).heap[b]? =some (.cells #[x0,x1,x2,x3,x4,x5,x6,x7,x8,x9] TT (0,0)):=by
 have h1:(w.setCell ⟨b,0,none⟩ x0).heap[b]? =some (.cells #[x0,c1,c2,c3,c4,c5,c6,c7,c8,c9] TT (0,0)):=Qac (o:=0) h0 x0;have h2:((w.setCell ⟨b,0,none⟩ x0).setCell ⟨b,1,none⟩ x1).heap[b]? =some (.cells #[x0,x1,c2,c3,c4,c5,c6,c7,c8,c9] TT (0,0)):=Qac (o:=1) h1 x1;have h3:(((w.setCell ⟨b,0,none⟩ x0).setCell ⟨b,1,none⟩ x1).setCell ⟨b,2,none⟩ x2).heap[b]? =some (.cells #[x0,x1,x2,c3,c4,c5,c6,c7,c8,c9] TT (0,0)):=Qac (o:=2) h2 x2
 have h4:((((w.setCell ⟨b,0,none⟩ x0).setCell ⟨b,1,none⟩ x1).setCell ⟨b,2,none⟩ x2).setCell ⟨b,3,none⟩ x3).heap[b]? =some (.cells #[x0,x1,x2,x3,c4,c5,c6,c7,c8,c9] TT (0,0)):=Qac (o:=3) h3 x3;have h5:(((((w.setCell ⟨b,0,none⟩ x0).setCell ⟨b,1,none⟩ x1).setCell ⟨b,2,none⟩ x2).setCell ⟨b,3,none⟩ x3).setCell ⟨b,4,none⟩ x4).heap[b]? =some (.cells #[x0,x1,x2,x3,x4,c5,c6,c7,c8,c9] TT (0,0)):=Qac (o:=4) h4 x4
 have h6:((((((w.setCell ⟨b,0,none⟩ x0).setCell ⟨b,1,none⟩ x1).setCell ⟨b,2,none⟩ x2).setCell ⟨b,3,none⟩ x3).setCell ⟨b,4,none⟩ x4).setCell ⟨b,5,none⟩ x5).heap[b]? =some (.cells #[x0,x1,x2,x3,x4,x5,c6,c7,c8,c9] TT (0,0)):=Qac (o:=5) h5 x5;have h7:(((((((w.setCell ⟨b,0,none⟩ x0).setCell ⟨b,1,none⟩ x1).setCell ⟨b,2,none⟩ x2).setCell ⟨b,3,none⟩ x3).setCell ⟨b,4,none⟩ x4).setCell ⟨b,5,none⟩ x5).setCell ⟨b,6,none⟩ x6).heap[b]? =some (.cells #[x0,x1,x2,x3,x4,x5,x6,c7,c8,c9] TT (0,0)):=Qac (o:=6) h6 x6
 have h8:((((((((w.setCell ⟨b,0,none⟩ x0).setCell ⟨b,1,none⟩ x1).setCell ⟨b,2,none⟩ x2).setCell ⟨b,3,none⟩ x3).setCell ⟨b,4,none⟩ x4).setCell ⟨b,5,none⟩ x5).setCell ⟨b,6,none⟩ x6).setCell ⟨b,7,none⟩ x7).heap[b]? =some (.cells #[x0,x1,x2,x3,x4,x5,x6,x7,c8,c9] TT (0,0)):=Qac (o:=7) h7 x7;have h9:(((((((((w.setCell ⟨b,0,none⟩ x0).setCell ⟨b,1,none⟩ x1).setCell ⟨b,2,none⟩ x2).setCell ⟨b,3,none⟩ x3).setCell ⟨b,4,none⟩ x4).setCell ⟨b,5,none⟩ x5).setCell ⟨b,6,none⟩ x6).setCell ⟨b,7,none⟩ x7).setCell ⟨b,8,none⟩ x8).heap[b]? =some (.cells #[x0,x1,x2,x3,x4,x5,x6,x7,x8,c9] TT (0,0)):=Qac (o:=8) h8 x8
 have h10:((((((((((w.setCell ⟨b,0,none⟩ x0).setCell ⟨b,1,none⟩ x1).setCell ⟨b,2,none⟩ x2).setCell ⟨b,3,none⟩ x3).setCell ⟨b,4,none⟩ x4).setCell ⟨b,5,none⟩ x5).setCell ⟨b,6,none⟩ x6).setCell ⟨b,7,none⟩ x7).setCell ⟨b,8,none⟩ x8).setCell ⟨b,9,none⟩ x9).heap[b]? =some (.cells #[x0,x1,x2,x3,x4,x5,x6,x7,x8,x9] TT (0,0)):=Qac (o:=9) h9 x9;exact h10
theorem ScIs.iface{w:World}{lo:Nat}{v:Value}{s:Scp}(h:ScIs w lo allV v s):∃T x,v=.iface T x:=by
 cases s with
 | all=>exact⟨_,_,h⟩
 | eq u=>exact⟨_,_,h⟩
 | within u=>exact⟨_,_,h⟩
 | is s=>exact⟨_,_,h⟩
 | isIn s u=>exact⟨_,_,h⟩
 | inSet l=>obtain⟨p,c,hv,_⟩:=h;exact⟨_,_,hv⟩
theorem PS.extT{w w':World}{bp base tb:Nat}{ts:List Tok}(h:PS w bp base ts)(he:Ext (·=tb) w w')(h15:15≤tb)(hne:tb≠bp)(hno:∀o t,¬TokAt w tb o t):PS w' bp base ts:=by
 obtain⟨bt,off,n,cap,k,a,b,c,d,e,f,g⟩:=h.ex;have hlo:=h.lo _ _ _ _ _ b;have hbt:¬bt=tb:=by
  rintro rfl;cases ts with
  | nil=>exact f rfl
  | cons t ts=>exact hno _ _ (g 0 t rfl)
 have hb:w'.heap[bp]? =_:=(he.block bp (Array.getElem?_eq_some_iff.1 b).1 (fun e=>hne e.symm)).trans b;exact⟨⟨bt,off,n,cap,k,a,hb,Nat.lt_of_lt_of_le c he.size,d,e,f,fun i t hi=>(g i t hi).ext he hbt⟩,fun bt' off' n' cap' v' h'=>(by rw[hb]at h';cases h';exact hlo),h.hbp,h.g.ext he (fun d hd=>by have:=h.h15;omega) (by have:=(Array.getElem?_eq_some_iff.1 b).1;have:=h.h15;omega),h.h15⟩
def QhO(w:World)(base B tb:Nat)(TT:TypeId)(P:Pol):Prop :=
 ∃pn cn prv acv rev pc cc cells,w.heap[tb]? =some (.cells #[.bool P.eff,.slice pn P.notes.length cn,prv,acv,rev,.slice pc P.cs.length cc,.string P.fn,.int .i64 P.off,.int .i64 P.ln,.int .i64 P.col] TT (0,0)) ∧
  w.ownsRow B 133 2 (.slice pn P.notes.length cn) P.notes.length (Qav P.notes)∧ScIs w base allV prv P.pr∧ScIs w base allV acv P.ac∧ScIs w base allV rev P.re∧w.ownsRow B 138 2 (.slice pc P.cs.length cc) P.cs.length cells∧CondsIs w base cells P.cs
def FcP(bp base tb:Nat)(TT:TypeId)(w:World)(r:Option (Pol×Toks))(e:Ending)(w':World):Prop :=
 Ext (fun d=>d=bp∨d=tb) w w'∧match r with
 | none=>∃T v,e=.returned (.iface T v)
 | some (P,us)=>e=.returned .nilIface∧PS w' bp base us∧QhO w' base w.heap.size tb TT P
theorem policy_w{L:Lex}(hL:LexC L){E:Toks→Option (Ex×Toks)}{bp base tb N:Nat}{TT:TypeId}{t0 t1 t2 t3 t4 t5 t6 t7 t8 t9:Value}(hE:Sh E)(hC:FnC 149 E bp base N)(w:World)(ts:Toks)(hp:PS w bp base ts)(hwf:Wf ts)(hN:ts.length≤N)(hbs:base≤w.heap.size)(htb:base≤tb∨(15≤tb∧tb≠bp∧∀x o t,x.heap[tb]? =w.heap[tb]?→¬TokAt x tb o t))(hTT:TT≠133∧TT≠138∧TT≠167∧TT≠136∧TT≠221∧TT≠316)
  (ht:w.heap[tb]? =some (.cells #[t0,t1,t2,t3,t4,t5,t6,t7,t8,t9] TT (0,0))) :
  Calls Tryz.prog 55 #[.pointer (some ⟨tb,0,none⟩),.pointer (some ⟨bp,0,none⟩)] w (FcP bp base tb TT w (Qa2 L E ts)):=by
 have hbb:=hp.hbp;have h15:=hp.h15;have hlen:=hp.len;have HL:=Hi hL;have HC:=Hi hC;have HE:=Hi hE;clear hL hC hE;have ltT:=Qad ht;have hT_w:=ht;have HT0:=Hi ht;clear ht;obtain⟨u,q,rfl⟩:∃u q,ts=u::q:=by cases ts with | nil=>exact absurd rfl hp.ne | cons u q=>exact⟨u,q,rfl⟩
 go_enter Tryz.func55,Tryz.ntmps55;have HTT:=Hi hTT
 go_wp2_with fail
 refine(Qa7 hp).mono ?_;rintro e w1⟨rfl,hF⟩;have hT1:=Bk hF hT_w;have hs1:=hF.size;have hX1:Ext (·=bp) w w1:=.below hF;have hp_w1:=hp.below hF;clear hT_w hp;clear hF
 go_upto_region 2 with(fail)
 obtain⟨w2,hw⟩:∃w2,w1.alloc (.cells #[.string u.fn,.int .i64 u.off,.int .i64 u.ln,.int .i64 u.col] 120)=w2:=⟨_,rfl⟩
 rw[hw];have hF:Below w1.heap.size w1 w2:=by rw[←hw];exact Qab _ _
 have hQ2:w2.heap[w1.heap.size]? =some (.cells #[.string u.fn,.int .i64 u.off,.int .i64 u.ln,.int .i64 u.col] 120 (0,0)):=by rw[←hw];exact heap_alloc_new _ _
 have hs2:w1.heap.size+1≤w2.heap.size:=by rw[←hw];simp
 clear hw;have hT2:=Bk hF hT1;have hX2:=hX1.trans (.below hF);have hp_w2:=hp_w1.below hF;clear hT1 hX1 hp_w1;clear hF
 go_wp2_with fail
 refine(notes_w HL.out _ _ hp_w2 hwf (by omega)).mono ?_;rintro e w3⟨hF,hr⟩;have hT3:=hF.heap (by omega) hT2;have hQ3:=hF.heap (by omega) hQ2;have hs3:=hF.size;have hX3:=hX2.trans hF;clear hT2 hQ2 hX2;clear hF;cases hm1:notes L (u::q)with
 | none =>
  rw[hm1]at hr;obtain⟨p9,n9,c9,T9,v9,rfl⟩:=hr;have HR:=Hi (show Qa2 L E (u::q)=none by simp[Qa2,hm1]);go_wp2;go_ret;rw[HR.out];exact⟨(hX3.alloc _).mono (fun d k=>.inl k),_,_,rfl⟩
 | some p1 =>
  obtain⟨ns,a1⟩:=p1;rw[hm1]at hr;obtain⟨pn,cn,rfl,hp1,hO3,hln⟩:=hr;have hw1:=(Qeb hwf hm1).wf hwf;have hl1:=(Qeb hwf hm1).len;have H1:=Hi hm1;clear hm1
  go_upto_region 3 with(fail)
  obtain⟨w4,hw⟩:∃w4,w3.alloc (.cells #[.slice pn ns.length cn] 223)=w4:=⟨_,rfl⟩
  rw[hw];have hF:Below w3.heap.size w3 w4:=by rw[←hw];exact Qab _ _
  have hA4:w4.heap[w3.heap.size]? =some (.cells #[.slice pn ns.length cn] 223 (0,0)):=by rw[←hw];exact heap_alloc_new _ _
  have hs4:w3.heap.size+1≤w4.heap.size:=by rw[←hw];simp
  clear hw;have hT4:=Bk hF hT3;have hQ4:=Bk hF hQ3;have hO4:=Qaj (S:=fun _=>False) hO3 (.below hF) (fun _ h=>h.elim);have hX4:=hX3.trans (.below hF);have hp4:=hp1.below hF;clear hT3 hQ3 hO3 hX3 hp1;clear hF
  go_wp2_with fail
  refine(effect_w _ _ hp4 hw1 (by omega) (by omega) hA4).mono ?_;rintro e w5⟨hF,hr⟩;have hT5:=hF.heap (by omega) hT4;have hQ5:=hF.heap (by omega) hQ4;have hA5:=hF.heap (by omega) hA4;have hO5:=Qaj hO4 hF (fun d hd=>by omega);have hs5:=hF.size;have hX5:=hX4.trans hF;clear hT4 hQ4 hA4 hO4 hX4;clear hF;cases hm2:effM a1 with
  | none =>
   rw[hm2]at hr;obtain⟨T9,v9,rfl⟩:=hr;have HR:=Hi (show Qa2 L E (u::q)=none by simp[Qa2,H1.out,hm2]);go_wp2;go_ret;rw[HR.out];exact⟨hX5.mono (fun d k=>.inl k),_,_,rfl⟩
  | some p2 =>
   obtain⟨ef,a2⟩:=p2;rw[hm2]at hr;obtain⟨pb,rfl,hpb,hP,hp2⟩:=hr;have hw2:=(Qfc hw1 hm2).wf hw1;have hl2:=(Qfc hw1 hm2).len;have H2:=Hi hm2;clear hm2;unfold Qa8 at hP;have hL5:=hP;clear hP;obtain⟨c_hQ_0,c_hQ_1,c_hQ_2,c_hQ_3⟩:=Cl4 hQ5 rfl rfl rfl rfl;have c_hL_6:=Qaa (o:=6) hL5 rfl;have f_L0:=Qae hL5 6;have c_hL_7:=Qaa (o:=7) hL5 rfl;have f_L1:=Qae hL5 7;have c_hL_8:=Qaa (o:=8) hL5 rfl;have f_L2:=Qae hL5 8
   have c_hL_9:=Qaa (o:=9) hL5 rfl;have f_L3:=Qae hL5 9;have ltL:=Qad hL5
   go_upto_region 9 with(fail)
   obtain⟨w6,hw⟩:∃w6,((((w5.setCell ⟨pb,6,none⟩ (.string u.fn)).setCell ⟨pb,7,none⟩ (.int .i64 u.off)).setCell ⟨pb,8,none⟩ (.int .i64 u.ln)).setCell ⟨pb,9,none⟩ (.int .i64 u.col))=w6:=⟨_,rfl⟩
   rw[hw];have hXT:Ext (·=pb) w5 w6:=by rw[←hw];exact((((Ext.refl (·=pb) w5).set (p:=⟨pb,6,none⟩) (.inl rfl) (.string u.fn)).set (p:=⟨pb,7,none⟩) (.inl rfl) (.int .i64 u.off)).set (p:=⟨pb,8,none⟩) (.inl rfl) (.int .i64 u.ln)).set (p:=⟨pb,9,none⟩) (.inl rfl) (.int .i64 u.col)
   have hL6:w6.heap[pb]? =some (.cells #[.bool ef,.slice pn ns.length cn,allV,allV,allV,.slice none 0 0,.string u.fn,.int .i64 u.off,.int .i64 u.ln,.int .i64 u.col] 128 (0,0)):=by rw[←hw];exact Qac (o:=9) (Qac (o:=8) (Qac (o:=7) (Qac (o:=6) (hL5) (.string u.fn)) (.int .i64 u.off)) (.int .i64 u.ln)) (.int .i64 u.col)
   have hT6:=hXT.heap (by omega) hT5;have hO6:=Qea (Qb3 hO5 hXT (fun d hd=>.inr (fun c fr h=>by subst hd;rw[hL5]at h;cases h))) (show w.heap.size≤_ by omega);have hp6:=hp2.ext hXT (fun d k=>by subst k;omega);have hs6:=hXT.size;have hX6:=hX5.trans' hXT (fun d k=>.inr (by subst k;omega));have hpw:w.heap.size≤pb:=by omega
   clear hw hXT;clear hT5 hO5 hL5 hQ5 hA5 hp2 hX5 c_hQ_0 c_hQ_1 c_hQ_2 c_hQ_3 c_hL_6 f_L0 c_hL_7 f_L1 c_hL_8 f_L2 c_hL_9 f_L3;obtain⟨u11,q11,rfl⟩:∃a b,a2=a::b:=by cases a2 with | nil=>exact absurd rfl hp6.ne | cons a b=>exact⟨a,b,rfl⟩
   cases hx11:(u11.tx.toList==[40])with
   | false =>
    have hy:exact [40] (u11::q11)=none:=by simp[exact,tx,hx11]
    go_wp2_with fail
    refine(Qa9 hp6 hx11).mono ?_;rintro e w7⟨T9,v9,rfl,hp7,hF⟩;have hT7:=hF.heap (by omega) hT6;have hL7:=hF.heap (by omega) hL6;have hO7:=Qaj hO6 hF (fun d hd=>by omega);have hs7:=hF.size;have hX7:=hX6.trans hF;clear hT6 hL6 hO6 hX6 hp6;clear hF;have HY:=Hi hy;clear hy;have HR:=Hi (show Qa2 L E (u::q)=none by simp[Qa2,H1.out,H2.out,HY.out]);go_wp2;go_ret;rw[HR.out];exact⟨hX7.mono (fun d k=>.inl k),_,_,rfl⟩
   | true =>
    have HY11:=Hi (show exact [40] (u11::q11)=some (adv (u11::q11))by simp[exact,tx,hx11])
    go_wp2_with fail
    refine(Qa0 hp6 hx11).mono ?_;rintro e w7⟨rfl,hp7,hF⟩;have hT7:=hF.heap (by omega) hT6;have hL7:=hF.heap (by omega) hL6;have hO7:=Qaj hO6 hF (fun d hd=>by omega);have hs7:=hF.size;have hX7:=hX6.trans hF;clear hT6 hL6 hO6 hX6 hp6;clear hF;have hwy11:=(hw2).adv;have hly11:=(Qam hw2).len
    go_wp2_with fail
    refine(Qfb HL.out _ (adv (u11::q11)) hp7 hwy11 (by omega) (by omega) hL7).mono ?_;rintro e w8⟨hF,hr⟩;have hT8:=hF.heap (fun h=>by rcases h with h | h<;>omega) hT7;have hO8:=Qb3 hO7 hF (fun d hd=>by
     rcases hd with rfl | rfl
     ·exact .inl (by omega)
     ·exact .inr (fun c fr h=>by rw[hL7]at h;cases h))
    have hs8:=hF.size;have hX8:=hX7.trans' hF (fun d hd=>hd.imp id (fun h=>by subst h;exact hpw));cases hm:Qat L [112,114,105,110,99,105,112,97,108] (adv (u11::q11))with
    | none =>
     rw[hm]at hr;obtain⟨T9,v9,rfl⟩:=hr;clear hL7 hF;have HR:=Hi (show Qa2 L E (u::q)=none by simp[Qa2,H1.out,H2.out,HY11.out,hm]);go_wp2;go_ret;rw[HR.out];exact⟨hX8.mono (fun d k=>.inl k),_,_,rfl⟩
    | some p_scp =>
     obtain⟨s_scp,a_scp⟩:=p_scp;rw[hm]at hr;obtain⟨v_scp,rfl,hp8,hLn,scp8⟩:=hr;unfold Qa8 at hLn;have hL8:=hLn;have hw_scp:=(Qb6 hwy11 hm).wf hwy11;have hl_scp:=(Qb6 hwy11 hm).len;have H_scp:=Hi hm;clear hm hLn hF;clear hT7 hO7 hL7 hp7 hX7;obtain⟨u12,q12,rfl⟩:∃a b,a_scp=a::b:=by cases a_scp with | nil=>exact absurd rfl hp8.ne | cons a b=>exact⟨a,b,rfl⟩
     cases hx12:(u12.tx.toList==[44])with
     | false =>
      have hy:exact [44] (u12::q12)=none:=by simp[exact,tx,hx12]
      go_wp2_with fail
      refine(Qa9 hp8 hx12).mono ?_;rintro e w9⟨T9,v9,rfl,hp9,hF⟩;have scp9:=scp8.ext hF (fun d hd=>.inl (by subst hd;omega));have hT9:=hF.heap (by omega) hT8;have hL9:=hF.heap (by omega) hL8;have hO9:=Qaj hO8 hF (fun d hd=>by omega);have hs9:=hF.size;have hX9:=hX8.trans hF;clear hT8 hL8 hO8 hX8 hp8 scp8;clear hF;have HY:=Hi hy;clear hy;have HR:=Hi (show Qa2 L E (u::q)=none by simp[Qa2,H1.out,H2.out,HY11.out,H_scp.out,HY.out])
      go_wp2;go_ret;rw[HR.out];exact⟨hX9.mono (fun d k=>.inl k),_,_,rfl⟩
     | true =>
      have HY12:=Hi (show exact [44] (u12::q12)=some (adv (u12::q12))by simp[exact,tx,hx12])
      go_wp2_with fail
      refine(Qa0 hp8 hx12).mono ?_;rintro e w9⟨rfl,hp9,hF⟩;have scp9:=scp8.ext hF (fun d hd=>.inl (by subst hd;omega));have hT9:=hF.heap (by omega) hT8;have hL9:=hF.heap (by omega) hL8;have hO9:=Qaj hO8 hF (fun d hd=>by omega);have hs9:=hF.size;have hX9:=hX8.trans hF;clear hT8 hL8 hO8 hX8 hp8 scp8;clear hF;have hwy12:=(hw_scp).adv;have hly12:=(Qam hw_scp).len
      go_wp2_with fail
      refine(action_w HL.out _ (adv (u12::q12)) hp9 hwy12 (by omega) (by omega) hL9).mono ?_;rintro e w10⟨hF,hr⟩;have hT10:=hF.heap (fun h=>by rcases h with h | h<;>omega) hT9;have hO10:=Qb3 hO9 hF (fun d hd=>by
       rcases hd with rfl | rfl
       ·exact .inl (by omega)
       ·exact .inr (fun c fr h=>by rw[hL9]at h;cases h))
      have scp10:=scp9.ext hF (fun d hd=>by
       rcases hd with rfl | rfl
       ·exact .inl (by omega)
       ·exact .inr (fun c fr h=>by rw[hL9]at h;cases h))
      have hs10:=hF.size;have hX10:=hX9.trans' hF (fun d hd=>hd.imp id (fun h=>by subst h;exact hpw));cases hm:QaI L (adv (u12::q12))with
      | none =>
       rw[hm]at hr;obtain⟨T9,v9,rfl⟩:=hr;clear hL9 hF;have HR:=Hi (show Qa2 L E (u::q)=none by simp[Qa2,H1.out,H2.out,HY11.out,H_scp.out,HY12.out,hm]);go_wp2;go_ret;rw[HR.out];exact⟨hX10.mono (fun d k=>.inl k),_,_,rfl⟩
      | some p_sca =>
       obtain⟨s_sca,a_sca⟩:=p_sca;rw[hm]at hr;obtain⟨v_sca,rfl,hp10,hLn,sca10⟩:=hr;unfold Qa8 at hLn;have hL10:=hLn;have hw_sca:=(QcU hwy12 hm).wf hwy12;have hl_sca:=(QcU hwy12 hm).len;have H_sca:=Hi hm;clear hm hLn hF;clear hT9 hO9 hL9 scp9 hp9 hX9;obtain⟨u13,q13,rfl⟩:∃a b,a_sca=a::b:=by cases a_sca with | nil=>exact absurd rfl hp10.ne | cons a b=>exact⟨a,b,rfl⟩
       cases hx13:(u13.tx.toList==[44])with
       | false =>
        have hy:exact [44] (u13::q13)=none:=by simp[exact,tx,hx13]
        go_wp2_with fail
        refine(Qa9 hp10 hx13).mono ?_;rintro e w11⟨T9,v9,rfl,hp11,hF⟩;have scp11:=scp10.ext hF (fun d hd=>.inl (by subst hd;omega));have sca11:=sca10.ext hF (fun d hd=>.inl (by subst hd;omega));have hT11:=hF.heap (by omega) hT10;have hL11:=hF.heap (by omega) hL10;have hO11:=Qaj hO10 hF (fun d hd=>by omega);have hs11:=hF.size;have hX11:=hX10.trans hF;clear hT10 hL10 hO10 hX10 hp10 scp10 sca10;clear hF
        have HY:=Hi hy;clear hy;have HR:=Hi (show Qa2 L E (u::q)=none by simp[Qa2,H1.out,H2.out,HY11.out,H_scp.out,HY12.out,H_sca.out,HY.out]);go_wp2;go_ret;rw[HR.out];exact⟨hX11.mono (fun d k=>.inl k),_,_,rfl⟩
       | true =>
        have HY13:=Hi (show exact [44] (u13::q13)=some (adv (u13::q13))by simp[exact,tx,hx13])
        go_wp2_with fail
        refine(Qa0 hp10 hx13).mono ?_;rintro e w11⟨rfl,hp11,hF⟩;have scp11:=scp10.ext hF (fun d hd=>.inl (by subst hd;omega));have sca11:=sca10.ext hF (fun d hd=>.inl (by subst hd;omega));have hT11:=hF.heap (by omega) hT10;have hL11:=hF.heap (by omega) hL10;have hO11:=Qaj hO10 hF (fun d hd=>by omega);have hs11:=hF.size;have hX11:=hX10.trans hF;clear hT10 hL10 hO10 hX10 hp10 scp10 sca10;clear hF;have hwy13:=(hw_sca).adv
        have hly13:=(Qam hw_sca).len
        go_wp2_with fail
        refine(Qgc HL.out _ (adv (u13::q13)) hp11 hwy13 (by omega) (by omega) hL11).mono ?_;rintro e w12⟨hF,hr⟩;have hT12:=hF.heap (fun h=>by rcases h with h | h<;>omega) hT11;have hO12:=Qb3 hO11 hF (fun d hd=>by
         rcases hd with rfl | rfl
         ·exact .inl (by omega)
         ·exact .inr (fun c fr h=>by rw[hL11]at h;cases h))
        have scp12:=scp11.ext hF (fun d hd=>by
         rcases hd with rfl | rfl
         ·exact .inl (by omega)
         ·exact .inr (fun c fr h=>by rw[hL11]at h;cases h))
        have sca12:=sca11.ext hF (fun d hd=>by
         rcases hd with rfl | rfl
         ·exact .inl (by omega)
         ·exact .inr (fun c fr h=>by rw[hL11]at h;cases h))
        have hs12:=hF.size;have hX12:=hX11.trans' hF (fun d hd=>hd.imp id (fun h=>by subst h;exact hpw));cases hm:Qat L [114,101,115,111,117,114,99,101] (adv (u13::q13))with
        | none =>
         rw[hm]at hr;obtain⟨T9,v9,rfl⟩:=hr;clear hL11 hF;have HR:=Hi (show Qa2 L E (u::q)=none by simp[Qa2,H1.out,H2.out,HY11.out,H_scp.out,HY12.out,H_sca.out,HY13.out,hm]);go_wp2;go_ret;rw[HR.out];exact⟨hX12.mono (fun d k=>.inl k),_,_,rfl⟩
        | some p_scr =>
         obtain⟨s_scr,a_scr⟩:=p_scr;rw[hm]at hr;obtain⟨v_scr,rfl,hp12,hLn,scr12⟩:=hr;unfold Qa8 at hLn;have hL12:=hLn;have hw_scr:=(Qb6 hwy13 hm).wf hwy13;have hl_scr:=(Qb6 hwy13 hm).len;have H_scr:=Hi hm;clear hm hLn hF;clear hT11 hO11 hL11 scp11 sca11 hp11 hX11;obtain⟨u8,q8,rfl⟩:∃a b,a_scr=a::b:=by cases a_scr with | nil=>exact absurd rfl hp12.ne | cons a b=>exact⟨a,b,rfl⟩
         go_wp2_with fail
         refine(skip_c hp12).mono ?_;rintro e w13⟨rfl,hp13,hF⟩;have scp13:=scp12.ext hF (fun d hd=>.inl (by subst hd;omega));have sca13:=sca12.ext hF (fun d hd=>.inl (by subst hd;omega));have scr13:=scr12.ext hF (fun d hd=>.inl (by subst hd;omega));have hT13:=hF.heap (by omega) hT12;have hL13:=hF.heap (by omega) hL12;have hO13:=Qaj hO12 hF (fun d hd=>by omega);have hs13:=hF.size;have hX13:=hX12.trans hF
         clear hT12 hL12 hO12 hX12 hp12 scp12 sca12 scr12;clear hF;have hws:=(Qf1 hw_scr).wf hw_scr;have hls:=(Qf1 hw_scr).len;obtain⟨u14,q14,hc14⟩:∃a b,(Qds (u8::q8))=a::b:=by
          have:=hp13.ne;cases h:(Qds (u8::q8))with
          | nil=>exact absurd h this
          | cons a b=>exact⟨a,b,rfl⟩
         have hwq14:=hws;rw[hc14]at hwq14 hls hp13;have HC14:=Hi hc14;clear hc14;cases hx14:(u14.tx.toList==[41])with
         | false =>
          have hy:exact [41] (u14::q14)=none:=by simp[exact,tx,hx14]
          go_wp2_with fail
          refine(Qa9 hp13 hx14).mono ?_;rintro e w14⟨T9,v9,rfl,hp14,hF⟩;have scp14:=scp13.ext hF (fun d hd=>.inl (by subst hd;omega));have sca14:=sca13.ext hF (fun d hd=>.inl (by subst hd;omega));have scr14:=scr13.ext hF (fun d hd=>.inl (by subst hd;omega));have hT14:=hF.heap (by omega) hT13;have hL14:=hF.heap (by omega) hL13;have hO14:=Qaj hO13 hF (fun d hd=>by omega);have hs14:=hF.size;have hX14:=hX13.trans hF
          clear hT13 hL13 hO13 hX13 hp13 scp13 sca13 scr13;clear hF;have HY:=Hi hy;clear hy;have HR:=Hi (show Qa2 L E (u::q)=none by simp[Qa2,H1.out,H2.out,HY11.out,H_scp.out,HY12.out,H_sca.out,HY13.out,H_scr.out,HC14.out,HY.out]);go_wp2;go_ret;rw[HR.out];exact⟨hX14.mono (fun d k=>.inl k),_,_,rfl⟩
         | true =>
          have HY14:=Hi (show exact [41] (u14::q14)=some (adv (u14::q14))by simp[exact,tx,hx14])
          go_wp2_with fail
          refine(Qa0 hp13 hx14).mono ?_;rintro e w14⟨rfl,hp14,hF⟩;have scp14:=scp13.ext hF (fun d hd=>.inl (by subst hd;omega));have sca14:=sca13.ext hF (fun d hd=>.inl (by subst hd;omega));have scr14:=scr13.ext hF (fun d hd=>.inl (by subst hd;omega));have hT14:=hF.heap (by omega) hT13;have hL14:=hF.heap (by omega) hL13;have hO14:=Qaj hO13 hF (fun d hd=>by omega);have hs14:=hF.size;have hX14:=hX13.trans hF
          clear hT13 hL13 hO13 hX13 hp13 scp13 sca13 scr13;clear hF;have hwy14:=(hwq14).adv;have hly14:=(Qam hwq14).len
          go_wp2_with fail
          refine(conds_w HE.out HC.out _ (adv (u14::q14)) hp14 hwy14 (by omega) (by omega) (by omega) hL14).mono ?_;rintro e w15⟨hF,hr⟩;have hT15:=hF.heap (fun h=>by rcases h with h | h<;>omega) hT14;have hO15:=Qb3 hO14 hF (fun d hd=>by
           rcases hd with rfl | rfl
           ·exact .inl (by omega)
           ·exact .inr (fun c fr h=>by rw[hL14]at h;cases h))
          have scp15:=scp14.ext hF (fun d hd=>by
           rcases hd with rfl | rfl
           ·exact .inl (by omega)
           ·exact .inr (fun c fr h=>by rw[hL14]at h;cases h))
          have sca15:=sca14.ext hF (fun d hd=>by
           rcases hd with rfl | rfl
           ·exact .inl (by omega)
           ·exact .inr (fun c fr h=>by rw[hL14]at h;cases h))
          have scr15:=scr14.ext hF (fun d hd=>by
           rcases hd with rfl | rfl
           ·exact .inl (by omega)
           ·exact .inr (fun c fr h=>by rw[hL14]at h;cases h))
          have hs15:=hF.size;have hX15:=hX14.trans' hF (fun d hd=>hd.imp id (fun h=>by subst h;exact hpw));cases hm:conds E (adv (u14::q14))with
          | none =>
           rw[hm]at hr;obtain⟨T9,v9,rfl⟩:=hr;clear hL14 hF;have HR:=Hi (show Qa2 L E (u::q)=none by simp[Qa2,H1.out,H2.out,HY11.out,H_scp.out,HY12.out,H_sca.out,HY13.out,H_scr.out,HC14.out,HY14.out,hm]);go_wp2;go_ret;rw[HR.out];exact⟨hX15.mono (fun d k=>.inl k),_,_,rfl⟩
          | some p_c =>
           obtain⟨cs,a_c⟩:=p_c;rw[hm]at hr;obtain⟨rfl,hp15,pc,cc,cells,hLn,hOc0,hCc15⟩:=hr;unfold Qa8 at hLn;have hL15:=hLn;have hOc15:=Qea hOc0 (show w.heap.size≤_ by omega);have hw_c:=(Qdt HE.out _ _ _ _ _ hwy14 hm).wf hwy14;have H_c:=Hi hm;clear hm hLn hF hOc0;clear hT14 hO14 hL14 scp14 sca14 scr14 hp14 hX14;obtain⟨T_scp,x_scp,rfl⟩:=scp15.iface;obtain⟨T_sca,x_sca,rfl⟩:=sca15.iface;obtain⟨T_scr,x_scr,rfl⟩:=scr15.iface
           obtain⟨u15,q15,rfl⟩:∃a b,a_c=a::b:=by cases a_c with | nil=>exact absurd rfl hp15.ne | cons a b=>exact⟨a,b,rfl⟩
           cases hx15:(u15.tx.toList==[59])with
           | false =>
            have hy:exact [59] (u15::q15)=none:=by simp[exact,tx,hx15]
            go_wp2_with fail
            refine(Qa9 hp15 hx15).mono ?_;rintro e w16⟨T9,v9,rfl,hp16,hF⟩;have scp16:=scp15.ext hF (fun d hd=>.inl (by subst hd;omega));have sca16:=sca15.ext hF (fun d hd=>.inl (by subst hd;omega));have scr16:=scr15.ext hF (fun d hd=>.inl (by subst hd;omega));have hCc16:=hCc15.keep hF (fun d hd=>by omega);have hT16:=hF.heap (by omega) hT15;have hL16:=hF.heap (by omega) hL15;have hO16:=Qaj hO15 hF (fun d hd=>by omega)
            have hOc16:=Qaj hOc15 hF (fun d hd=>by omega);have hs16:=hF.size;have hX16:=hX15.trans hF;clear hCc15 hT15 hL15 hO15 hOc15 hX15 hp15 scp15 sca15 scr15;clear hF;have HY:=Hi hy;clear hy;have HR:=Hi (show Qa2 L E (u::q)=none by simp[Qa2,H1.out,H2.out,HY11.out,H_scp.out,HY12.out,H_sca.out,HY13.out,H_scr.out,HC14.out,HY14.out,H_c.out,HY.out]);go_wp2;go_ret;rw[HR.out];exact⟨hX16.mono (fun d k=>.inl k),_,_,rfl⟩
           | true =>
            have HY15:=Hi (show exact [59] (u15::q15)=some (adv (u15::q15))by simp[exact,tx,hx15])
            go_wp2_with fail
            refine(Qa0 hp15 hx15).mono ?_;rintro e w16⟨rfl,hp16,hF⟩;have scp16:=scp15.ext hF (fun d hd=>.inl (by subst hd;omega));have sca16:=sca15.ext hF (fun d hd=>.inl (by subst hd;omega));have scr16:=scr15.ext hF (fun d hd=>.inl (by subst hd;omega));have hCc16:=hCc15.keep hF (fun d hd=>by omega);have hT16:=hF.heap (by omega) hT15;have hL16:=hF.heap (by omega) hL15;have hO16:=Qaj hO15 hF (fun d hd=>by omega)
            have hOc16:=Qaj hOc15 hF (fun d hd=>by omega);have hs16:=hF.size;have hX16:=hX15.trans hF;clear hCc15 hT15 hL15 hO15 hOc15 hX15 hp15 scp15 sca15 scr15;clear hF;have hwy15:=(hw_c).adv;have hly15:=(Qam hw_c).len;have HR:=Hi (show Qa2 L E (u::q)=some (⟨ef,ns,s_scp,s_sca,s_scr,cs,u.fn,u.off,u.ln,u.col⟩,(adv (u15::q15)))by simp[Qa2,hd,H1.out,H2.out,HY11.out,H_scp.out,HY12.out,H_sca.out,HY13.out,H_scr.out,HC14.out,HY14.out,H_c.out,HY15.out])
            have c_hL_0:=Qaa (o:=0) hL16 rfl;have c_hT_0:=Qaa (o:=0) hT16 rfl;have f_T0:=Qae hT16 0;have c_hL_1:=Qaa (o:=1) hL16 rfl;have c_hT_1:=Qaa (o:=1) hT16 rfl;have f_T1:=Qae hT16 1;have c_hL_2:=Qaa (o:=2) hL16 rfl;have c_hT_2:=Qaa (o:=2) hT16 rfl;have f_T2:=Qae hT16 2;have c_hL_3:=Qaa (o:=3) hL16 rfl;have c_hT_3:=Qaa (o:=3) hT16 rfl;have f_T3:=Qae hT16 3;have c_hL_4:=Qaa (o:=4) hL16 rfl;have c_hT_4:=Qaa (o:=4) hT16 rfl
            have f_T4:=Qae hT16 4;have c_hL_5:=Qaa (o:=5) hL16 rfl;have c_hT_5:=Qaa (o:=5) hT16 rfl;have f_T5:=Qae hT16 5;have c_hL_6:=Qaa (o:=6) hL16 rfl;have c_hT_6:=Qaa (o:=6) hT16 rfl;have f_T6:=Qae hT16 6;have c_hL_7:=Qaa (o:=7) hL16 rfl;have c_hT_7:=Qaa (o:=7) hT16 rfl;have f_T7:=Qae hT16 7;have c_hL_8:=Qaa (o:=8) hL16 rfl;have c_hT_8:=Qaa (o:=8) hT16 rfl;have f_T8:=Qae hT16 8;have c_hL_9:=Qaa (o:=9) hL16 rfl
            have c_hT_9:=Qaa (o:=9) hT16 rfl;have f_T9:=Qae hT16 9
            go_upto_region 38 with(fail)
            obtain⟨w17,hw⟩:∃w17,((((((((((w16.setCell ⟨tb,0,none⟩ (.bool ef)).setCell ⟨tb,1,none⟩ (.slice pn ns.length cn)).setCell ⟨tb,2,none⟩ (.iface T_scp x_scp)).setCell ⟨tb,3,none⟩ (.iface T_sca x_sca)).setCell ⟨tb,4,none⟩ (.iface T_scr x_scr)).setCell ⟨tb,5,none⟩ (.slice pc cs.length cc)).setCell ⟨tb,6,none⟩ (.string u.fn)).setCell ⟨tb,7,none⟩ (.int .i64 u.off)).setCell ⟨tb,8,none⟩ (.int .i64 u.ln)).setCell ⟨tb,9,none⟩ (.int .i64 u.col))=w17:=⟨_,rfl⟩
            rw[hw];have hXT:Ext (·=tb) w16 w17:=by rw[←hw];exact((((((((((Ext.refl (·=tb) w16).set (p:=⟨tb,0,none⟩) (.inl rfl) (.bool ef)).set (p:=⟨tb,1,none⟩) (.inl rfl) (.slice pn ns.length cn)).set (p:=⟨tb,2,none⟩) (.inl rfl) (.iface T_scp x_scp)).set (p:=⟨tb,3,none⟩) (.inl rfl) (.iface T_sca x_sca)).set (p:=⟨tb,4,none⟩) (.inl rfl) (.iface T_scr x_scr)).set (p:=⟨tb,5,none⟩) (.inl rfl) (.slice pc cs.length cc)).set (p:=⟨tb,6,none⟩) (.inl rfl) (.string u.fn)).set (p:=⟨tb,7,none⟩) (.inl rfl) (.int .i64 u.off)).set (p:=⟨tb,8,none⟩) (.inl rfl) (.int .i64 u.ln)).set (p:=⟨tb,9,none⟩) (.inl rfl) (.int .i64 u.col)
            have hTN:w17.heap[tb]? =some (.cells #[.bool ef,.slice pn ns.length cn,.iface T_scp x_scp,.iface T_sca x_sca,.iface T_scr x_scr,.slice pc cs.length cc,.string u.fn,.int .i64 u.off,.int .i64 u.ln,.int .i64 u.col] TT (0,0)):=by rw[←hw];exact ten_set (.bool ef) (.slice pn ns.length cn) (.iface T_scp x_scp) (.iface T_sca x_sca) (.iface T_scr x_scr) (.slice pc cs.length cc) (.string u.fn) (.int .i64 u.off) (.int .i64 u.ln) (.int .i64 u.col) hT16
            have hON:=Qb3 hO16 hXT (fun d hd=>.inr (fun c fr h=>by subst hd;rw[hT16]at h;cases h;exact HTT.out.1 rfl));have hOcN:=Qb3 hOc16 hXT (fun d hd=>.inr (fun c fr h=>by subst hd;rw[hT16]at h;cases h;exact HTT.out.2.1 rfl));have scpN:=scp16.ext hXT (fun d hd=>.inr (fun c fr h=>by subst hd;rw[hT16]at h;cases h;exact HTT.out.2.2.1 rfl));have scaN:=sca16.ext hXT (fun d hd=>.inr (fun c fr h=>by subst hd;rw[hT16]at h;cases h;exact HTT.out.2.2.1 rfl))
            have scrN:=scr16.ext hXT (fun d hd=>.inr (fun c fr h=>by subst hd;rw[hT16]at h;cases h;exact HTT.out.2.2.1 rfl));have hCN:=hCc16.extG hXT (fun d hd T c fr h=>by subst hd;rw[hT16]at h;cases h;exact HTT.out.2.2.2);have hpN:=(htb.elim (fun htb=>hp16.ext hXT (fun d k=>by subst k;exact htb)) (fun htb=>hp16.extT hXT htb.1 htb.2.1 (fun o t=>htb.2.2 w16 o t (hT16.trans HT0.out.symm))));have hXN:=(hX16.mono (S':=fun d=>d=bp∨d=tb) (fun d k=>.inl k)).trans (hXT.mono (fun d k=>.inr k))
            have HZ:=Hi (show QhO w17 base w.heap.size tb TT ⟨ef,ns,s_scp,s_sca,s_scr,cs,u.fn,u.off,u.ln,u.col⟩from⟨pn,cn,_,_,_,pc,cc,cells,hTN,hON,scpN,scaN,scrN,hOcN,hCN⟩);clear hw hXT hTN hON hOcN scpN scaN scrN hCN;clear hT16 hL16 hO16 hOc16 hCc16 scp16 sca16 scr16 hp16 hX16 c_hL_0 c_hT_0 f_T0 c_hL_1 c_hT_1 f_T1 c_hL_2 c_hT_2 f_T2 c_hL_3 c_hT_3 f_T3 c_hL_4 c_hT_4 f_T4 c_hL_5 c_hT_5 f_T5 c_hL_6 c_hT_6 f_T6 c_hL_7 c_hT_7 f_T7 c_hL_8 c_hT_8 f_T8 c_hL_9 c_hT_9 f_T9
            go_wp2;go_ret;rw[HR.out];exact⟨hXN,rfl,hpN,HZ.out⟩
theorem QfG(t i:ByteArray)(w:World):Calls Tryz.prog 63 #[.agg #[.string t,.string i]] w fun e w'=>e=.returned (.agg #[.string t,.string i])∧Below w.heap.size w w':=by
 go_enter Tryz.func63,Tryz.ntmps63
 go_wp2_with fail
 exact bodyPost_ret (Qao (a:=2) (t:=56) (by kernel_rfl) _ ⟨w.heap.size+1,0,none⟩ rfl _ _ (QeP _ _ _ _ _ (by kernel_rfl) (by kernel_rfl) (Qaa (o:=0) (Qah (by simp) _) rfl) (Qaa (o:=1) (Qah (by simp) _) rfl))) rfl ⟨rfl,(Qab w _).alloc (by simp) _⟩
structure PSc where
 kind:Int
 u:ByteArray×ByteArray
 l:List (ByteArray×ByteArray)
 ty:ByteArray
def toSc:Scp→PSc
 | .all=>⟨0,(⟨#[]⟩,⟨#[]⟩),[],⟨#[]⟩⟩
 | .eq u=>⟨1,u,[],⟨#[]⟩⟩
 | .within u=>⟨2,u,[],⟨#[]⟩⟩
 | .inSet l=>⟨3,(⟨#[]⟩,⟨#[]⟩),l,⟨#[]⟩⟩
 | .is s=>⟨4,(⟨#[]⟩,⟨#[]⟩),[],s⟩
 | .isIn s u=>⟨5,u,[],s⟩
def ScsIs(w:World)(U:Nat→Prop)(cs:List Value)(s:PSc):Prop :=
 ∃p c,cs=[.int .i64 s.kind,.string s.u.1,.string s.u.2,.slice p s.l.length c,.string s.ty]∧RwU w U 56 2 p s.l.length (Qav s.l)
theorem ScsIs.ext{w w':World}{U U' S:Nat→Prop}{cs:List Value}{x:PSc}(h:ScsIs w U cs x)(he:Ext S w w')(hs:∀d,U d→d<w.heap.size→¬S d∧U' d):ScsIs w' U' cs x:=by
 obtain⟨p,c,h1,h2⟩:=h;exact⟨p,c,h1,h2.ext he hs⟩
def ScsP(w:World)(x:PSc)(e:Ending)(w':World):Prop:=Below w.heap.size w w'∧∃cs,ScsIs w' (w.heap.size≤·) cs x∧e=.returned (.agg cs.toArray)
theorem load5{P:Program}{t:TypeId}(b o:Nat)(w:World)(v0 v1 v2 v3 v4:Value)(ha:(isAgg t).run P w=.ok true w)(hs:(sizeOf t).run P w=.ok 5 w)(h0:w.cell? ⟨b,o,none⟩=some v0)(h1:w.cell? ⟨b,o+1,none⟩=some v1)
  (h2:w.cell? ⟨b,o+2,none⟩=some v2)(h3:w.cell? ⟨b,o+3,none⟩=some v3)(h4:w.cell? ⟨b,o+4,none⟩=some v4) :
  (loadVar t ⟨b,o,none⟩).run P w=.ok (.agg #[v0,v1,v2,v3,v4]) w:=by
 simp only[loadVar,Sem.run_bind,ha,hs,Result.andThen_ok,Sem.run_pure,if_true];simp[loadCells,go_sem,h0,h1,h2,h3,h4]
theorem QdP{W:World}{fn:Func}{R:Nat}{v0 v1 v2 v3 v4:Value}{Q:Ending→World→Prop}(a:Act)(s:Nat)(hf:fn.results=#[.cell s 59])(ha:a.tmps.getD s undef=.pointer (some ⟨R,0,none⟩))(had:a.defers=[])
  (r:W.heap[R]? =some (.cells #[v0,v1,v2,v3,v4] 59 (0,0)))(h:Q (.returned (.agg #[v0,v1,v2,v3,v4])) W):bodyPost Tryz.prog fn Q Exit.ret a W :=
 bodyPost_ret (Qao (a:=s) (t:=59) hf _ ⟨R,0,none⟩ ha _ _ (load5 _ _ _ _ _ _ _ _ (by kernel_rfl) (by kernel_rfl) (Qaa (o:=0) r rfl) (Qaa (o:=1) r rfl) (Qaa (o:=2) r rfl) (Qaa (o:=3) r rfl) (Qaa (o:=4) r rfl))) had h
theorem QhP(T:TypeId)(v:Value)(w:World)(h:allV=.iface T v):Calls Tryz.prog 50 #[allV] w (ScsP w (toSc .all)):=by
 unfold allV;go_enter Tryz.func50,Tryz.ntmps50
 go_wp2_with fail
 refine QdP _ 2 (by kernel_rfl) rfl rfl (heap_alloc_new w _) ?_;exact⟨Qab w _,_,⟨none,0,rfl,.nil⟩,rfl⟩
theorem box5{w:World}{b:Nat}{c:Array Value}{e:TypeId}(h:w.heap[b]? =some (.cells c e (0,0)))(hc:c.size=5)(v0 v1 v2 v3 v4:Value) :
  ∃w',(((((w.setCell ⟨b,0,none⟩ v0).setCell ⟨b,1,none⟩ v1).setCell ⟨b,2,none⟩ v2).setCell ⟨b,3,none⟩ v3).setCell ⟨b,4,none⟩ v4)=w'∧w'.heap[b]? =some (.cells #[v0,v1,v2,v3,v4] e (0,0))∧Ext (·=b) w w':=by
 obtain⟨l⟩:=c
 match l,hc with
 | [a0,a1,a2,a3,a4],_ =>
  have s0:(w.setCell ⟨b,0,none⟩ v0).heap[b]? =some (.cells #[v0,a1,a2,a3,a4] e (0,0)):=Qac (o:=0) h v0;have s1:((w.setCell ⟨b,0,none⟩ v0).setCell ⟨b,1,none⟩ v1).heap[b]? =some (.cells #[v0,v1,a2,a3,a4] e (0,0)):=Qac (o:=1) s0 v1;have s2:(((w.setCell ⟨b,0,none⟩ v0).setCell ⟨b,1,none⟩ v1).setCell ⟨b,2,none⟩ v2).heap[b]? =some (.cells #[v0,v1,v2,a3,a4] e (0,0)):=Qac (o:=2) s1 v2;have s3:((((w.setCell ⟨b,0,none⟩ v0).setCell ⟨b,1,none⟩ v1).setCell ⟨b,2,none⟩ v2).setCell ⟨b,3,none⟩ v3).heap[b]? =some (.cells #[v0,v1,v2,v3,a4] e (0,0)):=Qac (o:=3) s2 v3
  have s4:(((((w.setCell ⟨b,0,none⟩ v0).setCell ⟨b,1,none⟩ v1).setCell ⟨b,2,none⟩ v2).setCell ⟨b,3,none⟩ v3).setCell ⟨b,4,none⟩ v4).heap[b]? =some (.cells #[v0,v1,v2,v3,v4] e (0,0)):=Qac (o:=4) s3 v4;exact⟨_,rfl,s4,(((((Ext.refl (·=b) w).set (p:=⟨b,0,none⟩) (.inl rfl) v0).set (p:=⟨b,1,none⟩) (.inl rfl) v1).set (p:=⟨b,2,none⟩) (.inl rfl) v2).set (p:=⟨b,3,none⟩) (.inl rfl) v3).set (p:=⟨b,4,none⟩) (.inl rfl) v4⟩
abbrev sZero:Array Value:=#[.int .i64 0,.string ⟨#[]⟩,.string ⟨#[]⟩,.slice none 0 0,.string ⟨#[]⟩]
theorem zero5{w:World}{R:Nat}(h:w.heap[R]? =some (.cells sZero 59 (0,0))):w.cell? ⟨R,0,none⟩=some (.int .i64 0)∧w.cell? ⟨R,1,none⟩=some (.string ⟨#[]⟩)∧w.cell? ⟨R,2,none⟩=some (.string ⟨#[]⟩)∧w.cell? ⟨R,3,none⟩=some (.slice none 0 0)∧w.cell? ⟨R,4,none⟩=some (.string ⟨#[]⟩)∧w.frozen? ⟨R,0,none⟩=false∧w.frozen? ⟨R,1,none⟩=false∧w.frozen? ⟨R,2,none⟩=false∧w.frozen? ⟨R,3,none⟩=false∧w.frozen? ⟨R,4,none⟩=false :=
 ⟨Qaa h rfl,Qaa h rfl,Qaa h rfl,Qaa h rfl,Qaa h rfl,Qae h 0,Qae h 1,Qae h 2,Qae h 3,Qae h 4⟩
theorem scope_eq(u:ByteArray×ByteArray)(w:World):Calls Tryz.prog 50 #[.iface 169 (.agg #[.string u.1,.string u.2])] w (ScsP w (toSc (.eq u))):=by
 go_enter Tryz.func50,Tryz.ntmps50
 go_wp2_with fail
 refine(QfG _ _ _).mono ?_;rintro e w2⟨rfl,B2⟩;have hB1:=(Qab w (.cells sZero 59)).alloc (by simp) (.cells #[.string u.1,.string u.2] 169);have HR:=Hi ((B2.block _ (Qad (Qaf (heap_alloc_new w (.cells sZero 59)) (.cells #[.string u.1,.string u.2] 169)))).trans (Qaf (heap_alloc_new w (.cells sZero 59)) (.cells #[.string u.1,.string u.2] 169)));have HB:=Hi (hB1.trans (B2.mono hB1.size));clear B2 hB1;obtain⟨e0,e1,e2,e3,e4,f0,f1,f2,f3,f4⟩:=zero5 HR.out
 go_wp2_with fail
 obtain⟨w9,hw9,h9,hE⟩:=box5 HR.out rfl (.int .i64 1) (.string u.1) (.string u.2) (.slice none 0 0) (.string ⟨#[]⟩);rw[hw9];refine QdP _ 2 (by kernel_rfl) rfl rfl h9 ?_;exact⟨((Ext.below (S:=fun _=>False) HB.out).trans' hE (fun d hd=>by omega)).toBelow (fun _ h=>h.elim) (Nat.le_refl _),_,⟨none,0,rfl,.nil⟩,rfl⟩
theorem QeG(u:ByteArray×ByteArray)(w:World):Calls Tryz.prog 50 #[.iface 171 (.agg #[.string u.1,.string u.2])] w (ScsP w (toSc (.within u))):=by
 go_enter Tryz.func50,Tryz.ntmps50
 go_wp2_with fail
 refine(QfG _ _ _).mono ?_;rintro e w2⟨rfl,B2⟩;have hB1:=(Qab w (.cells sZero 59)).alloc (by simp) (.cells #[.string u.1,.string u.2] 171);have HR:=Hi ((B2.block _ (Qad (Qaf (heap_alloc_new w (.cells sZero 59)) (.cells #[.string u.1,.string u.2] 171)))).trans (Qaf (heap_alloc_new w (.cells sZero 59)) (.cells #[.string u.1,.string u.2] 171)));have HB:=Hi (hB1.trans (B2.mono hB1.size));clear B2 hB1;obtain⟨e0,e1,e2,e3,e4,f0,f1,f2,f3,f4⟩:=zero5 HR.out
 go_wp2_with fail
 obtain⟨w9,hw9,h9,hE⟩:=box5 HR.out rfl (.int .i64 2) (.string u.1) (.string u.2) (.slice none 0 0) (.string ⟨#[]⟩);rw[hw9];refine QdP _ 2 (by kernel_rfl) rfl rfl h9 ?_;exact⟨((Ext.below (S:=fun _=>False) HB.out).trans' hE (fun d hd=>by omega)).toBelow (fun _ h=>h.elim) (Nat.le_refl _),_,⟨none,0,rfl,.nil⟩,rfl⟩
theorem scope_is(s:ByteArray)(w:World):Calls Tryz.prog 50 #[.iface 176 (.agg #[.string s])] w (ScsP w (toSc (.is s))):=by
 go_enter Tryz.func50,Tryz.ntmps50
 go_wp2_with fail
 refine QdP _ 2 (by kernel_rfl) rfl rfl (by first | exact heap_alloc_new w _ | exact Qaf (heap_alloc_new w _) _) ?_;exact⟨by first | exact Qab w _ | exact(Qab w _).alloc (by simp) _,_,⟨none,0,rfl,.nil⟩,rfl⟩
theorem Qgn(s:ByteArray)(u:ByteArray×ByteArray)(w:World):Calls Tryz.prog 50 #[.iface 178 (.agg #[.string s,.string u.1,.string u.2])] w (ScsP w (toSc (.isIn s u))):=by
 go_enter Tryz.func50,Tryz.ntmps50
 go_upto_region 22 with(fail)
 refine QaB fun w1 hw1=>?_
 have hB1:Below w.heap.size w w1:=by rw[hw1];exact(Qab w _).alloc (by simp) _
 have hr:w1.heap[w.heap.size]? =some (.cells sZero 59 (0,0)):=by rw[hw1];exact Qaf (heap_alloc_new w _) _
 have hx:w1.heap[w.heap.size+1]? =some (.cells #[.string s,.string u.1,.string u.2] 178 (0,0)):=by rw[hw1];exact Qah (by simp) _
 clear hw1;have x0:w1.drew.cell? ⟨w.heap.size+1,0,none⟩=some (.string s):=Qaa (w:=w1) hx rfl;have x1:w1.drew.cell? ⟨w.heap.size+1,1,none⟩=some (.string u.1):=Qaa (w:=w1) hx rfl;have x2:w1.drew.cell? ⟨w.heap.size+1,2,none⟩=some (.string u.2):=Qaa (w:=w1) hx rfl;have HX:=Hi (And.intro hB1 (And.intro hr hx));clear hB1 hr hx
 go_region_with(go_at_call 63;refine(QfG _ _ _).mono ?_;rintro e w2 ⟨rfl,B2⟩;have x0':=(Ext.below (S:=fun _=>False) B2).cell (fun h=>h) x0;have HR2:=Hi ((B2.block _ (Qad (w:=w1.drew) HX.out.2.1)).trans HX.out.2.1);have HB2:=Hi B2;clear B2;obtain⟨e0,e1,e2,e3,e4,f0,f1,f2,f3,f4⟩:=zero5 HR2.out)
 all_goals
  go_wp2_with fail
  obtain⟨w9,hw9,h9,hE⟩:=box5 HR2.out rfl (.int .i64 5) (.string u.1) (.string u.2) (.slice none 0 0) (.string s);rw[hw9];refine QdP _ 2 (by kernel_rfl) rfl rfl h9 ?_;exact⟨((Ext.below (S:=fun _=>False) (HX.out.1.trans ((show Below w1.heap.size w1 w2 from⟨HB2.out.os,HB2.out.tape,HB2.out.output,HB2.out.size,HB2.out.block⟩).mono HX.out.1.size))).trans' hE (fun d hd=>by omega)).toBelow (fun _ h=>h.elim) (Nat.le_refl _),_,⟨none,0,rfl,.nil⟩,rfl⟩
structure R1(e:TypeId)(sz:Nat)(vL:Value)(B n:Nat)(xs news:List Value)(w w':World):Prop where
 ext:Ext (fun d=>vL.ownBlock=some d) w w'
 a0:w.ownsRow B e sz vL n xs→w'.ownsRow B e sz vL n xs
 a1:∀v,w.ownsRow B e sz v (n+1) (xs++news)→w'.ownsRow B e sz v (n+1) (xs++news)
section
variable {e:TypeId}{sz:Nat}{vL:Value}{B n:Nat}{xs news:List Value}{w w' w'':World}
theorem R1.trans(h:R1 e sz vL B n xs news w w')(k:R1 e sz vL B n xs news w' w''):R1 e sz vL B n xs news w w'':=⟨h.ext.trans k.ext,fun x=>k.a0 (h.a0 x),fun v x=>k.a1 v (h.a1 v x)⟩
theorem R1.refl:R1 e sz vL B n xs news w w:=⟨.refl _ _,id,fun _ h=>h⟩
theorem R1.drew:R1 e sz vL B n xs news w w.drew:=⟨(Ext.refl _ _).drew,id,fun _ h=>h⟩
theorem R1.below(hb:Below w.heap.size w w'):R1 e sz vL B n xs news w w':=⟨.below hb,fun h=>Qaj (S:=fun _=>False) h (.below hb) (fun _ h=>h.elim),fun _ h=>Qaj (S:=fun _=>False) h (.below hb) (fun _ h=>h.elim)⟩
theorem R1.alloc(o:Obj):R1 e sz vL B n xs news w (w.alloc o):=.below (Qab w o)
theorem R1.grow(hg:w.grownBy w' vL.ownBlock)(h0:w'.ownsRow B e sz vL n xs)(h1:∀v,w.ownsRow B e sz v (n+1) (xs++news)→w'.ownsRow B e sz v (n+1) (xs++news)):R1 e sz vL B n xs news w w':=⟨QaF hg,fun _=>h0,h1⟩
end
theorem sl57:SlT Tryz.prog 57 56 (.agg #[.string ⟨#[]⟩,.string ⟨#[]⟩]) 2 32:=⟨by kernel_rfl,⟨Tryz.t56,by kernel_rfl,by kernel_rfl,by kernel_rfl,by kernel_rfl⟩,rfl,by decide⟩
theorem QeH(w:World)(b:Nat):(Instr.fieldAt 59 (.pointer (some ⟨b,0,none⟩)) 2).run Tryz.prog w=.ok (.pointer (some ⟨b,3,none⟩)) w:=by kernel_rfl
theorem ld57(w:World)(b o:Nat)(p:Option Addr)(n c:Nat)(h:w.cell? ⟨b,o,none⟩=some (.slice p n c)):(Instr.loadAt 57 (.pointer (some ⟨b,o,none⟩))).run Tryz.prog w=.ok (.slice p n c) w:=by go_simp
theorem ld167(w:World)(b:Nat)(s t:ByteArray)(h0:w.cell? ⟨b,0,none⟩=some (.string s))(h1:w.cell? ⟨b,1,none⟩=some (.string t)):(Instr.loadAt 167 (.pointer (some ⟨b,0,none⟩))).run Tryz.prog w=.ok (.agg #[.string s,.string t]) w:=by go_simp
theorem st57(w:World)(b o:Nat)(p:Option Addr)(n c:Nat)(u:Value)(h:w.cell? ⟨b,o,none⟩=some u)(hf:w.frozen? ⟨b,o,none⟩=false):(Instr.storeAt 57 (.pointer (some ⟨b,o,none⟩)) (.slice p n c)).run Tryz.prog w=.ok () (w.setCell ⟨b,o,none⟩ (.slice p n c)):=by go_simp
theorem wpo_bs57{o:Oper}{a:Act}{w:World}{K:Act→World→Prop}{Q:Exit→Act→World→Prop}(x:Tmp)(ho:o.op=.buildSlice 57 1 #[(0,.tmp x)])(s t:ByteArray)(hx:a.eval (.tmp x)=.agg #[.string s,.string t])(h:K (a.put o.dst (.slice (some ⟨w.heap.size,0,none⟩) 1 1)) (w.alloc (.cells #[.string s,.string t] 56))):o.wp Tryz.prog a w K Q:=by
 have hx':a.tmps[x]?.getD undef=.agg #[.string s,.string t]:=by simpa [Act.eval]using hx
 unfold Oper.wp;simp only[execOp,ho];go_simp;exact h
theorem Qcx(f:FuncId){P:Program}{o:Oper}{a:Act}{w:World}{K:Act→World→Prop}{Q:Exit→Act→World→Prop}(args:Array Operand)(ats:Array TypeId)(ho:o.op=.call {callee:=.value (.func f),args:=args,argTypes:=ats})(fn:Func)(hf:P.funcs[f]? =some fn)(hn:(fn.name == "runtime.NumGoroutine")=false)(hb:fn.body.isNone=false)
  (vs:List Value)(hvs:args.toList.map a.eval=vs)(R:Value→World→Prop)(hc:Calls P f vs.toArray w (fun e w'=>∃v,e=.returned v∧R v w'))(h:∀v w',R v w'→K (a.put o.dst v) w'):o.wp P a w K Q:=by
 have hvs':args.map a.eval=vs.toArray:=by rw[←hvs,←Array.toList_map,Array.toArray_toList]
 unfold Oper.wp;simp only[execOp,ho,resolve,Act.eval,Deferred.ofValue,invoke,callFunc,program,Sem.run_bind,Sem.run,Sem.run_pure,Result.andThen_ok,hf,hn,hb,Bool.false_eq_true,if_false,Oper.upon];rw[hvs',Array.append_empty,Array.empty_append];refine Calls.mono hc fun e w' he=>?_
 obtain⟨y,rfl,hR⟩:=he;exact h y w' hR
def ΦS(B sb H:Nat)(vL:Value)(n:Nat)(u:ByteArray×ByteArray)(xs:List Value)(j:Nat)(v:Value)(w:World):Prop:=match j with
 | 0=>v=.pointer (some ⟨sb,3,none⟩)
 | 1=>v=vL
 | 2=>v=.agg #[.string u.1,.string u.2]
 | 3=>v=.agg #[.string u.1,.string u.2]
 | 4=>∃blk,v=.slice (some ⟨blk,0,none⟩) 1 1∧w.heap[blk]? =some (.cells #[.string u.1,.string u.2] 56 (0,0))∧H≤blk
 | 5=>w.ownsRow B 56 2 v (n+1) (xs++[.string u.1,.string u.2])
 | 6=>v=.pointer (some ⟨sb,3,none⟩)
 | _=>True
theorem ΦS.kept{B sb H:Nat}{vL:Value}{n:Nat}{u:ByteArray×ByteArray}{xs:List Value}{j:Nat}{v:Value}{w w':World}(hE:R1 56 2 vL B n xs [.string u.1,.string u.2] w w')(hA:∀k,vL.ownBlock=some k→k<H)
  (h:ΦS B sb H vL n u xs j v w):ΦS B sb H vL n u xs j v w':=by
 unfold ΦS at h ⊢;split<;>first | exact trivial | exact h | skip
 ·obtain⟨blk,h1,h2,h3⟩:=h
  exact⟨blk,h1,hE.ext.heap (fun e=>by have:=hA _ e;omega) h2,h3⟩
 ·exact hE.a1 _ h
def SsRl(w0:World)(l:List (ByteArray×ByteArray))(sl:Value)(wr:World):Prop :=
 ∃i vL,sl=.int .i64 ((i:Nat):Int)∧i≤l.length∧wr.heap[w0.heap.size]? =some (.cells sZero 59 (0,0))∧wr.heap[w0.heap.size+1+1]? =some (.cells #[.int .i64 3,.string ⟨#[]⟩,.string ⟨#[]⟩,vL,.string ⟨#[]⟩] 59 (0,0)) ∧
  wr.ownsRow (w0.heap.size+3) 56 2 vL i (Qav (l.take i))∧Below w0.heap.size w0 wr∧w0.heap.size+3≤wr.heap.size
theorem QhR(l:List (ByteArray×ByteArray))(hm:l.length≤1000000)(w:World)(lo c:Nat)(p:Option Addr)(hr:Row2At w lo 167 p l.length (fun i=>.string (l.getD i (⟨#[]⟩,⟨#[]⟩)).1) (fun i=>.string (l.getD i (⟨#[]⟩,⟨#[]⟩)).2)) :
  Calls Tryz.prog 50 #[.iface 174 (.agg #[.slice p l.length c])] w (ScsP w (toSc (.inSet l))):=by
 have HRW:=Hi hr;clear hr;go_enter Tryz.func50,Tryz.ntmps50
 go_upto_region 12 with(fail)
 refine QaB fun w1 hw1=>?_
 have HQ:Hid (SsRl w l (.int .i64 0) w1):=Hi (by
  rw[hw1];refine⟨0,.slice none 0 0,rfl,Nat.zero_le _,Qaf (Qaf (heap_alloc_new w _) _) _,Qah (by simp) _,⟨rfl,.inl ⟨rfl,rfl⟩⟩,((Qab w _).alloc (by simp) _).alloc (by simp;omega) _,by simp⟩)
 clear hw1
 go_loopw [33] (fun sl wr=>SsRl w l sl wr) (fun sl _=>l.length-(intOf sl).toNat)
 case atStart=>exact HQ.out
 case round =>
  clear HQ;obtain⟨i,vL,rfl,hi,hR,hY,hA,hBl,hz⟩:=hrel;obtain⟨pA,cA,rfl,-⟩:=RwU.own hA;have HR:=Hi hR;clear hR;have HA:=Hi hA;clear hA;have HB:=Hi hBl;clear hBl;by_cases hlt:i<l.length
  ·obtain⟨u,hu⟩:∃a,l[i]? =some a:=⟨l[i],by simp[hlt]⟩
   obtain⟨b,off,cc,fr,rfl,hlb,hcb,hcc⟩:=HRW.out.resolve_left (by omega);have hcc:=hcc i hlt;have hgd:l.getD i (⟨#[]⟩,⟨#[]⟩)=u:=by rw[List.getD_eq_getElem?_getD,hu];rfl
   simp only[hgd]at hcc;have hwb:=(HB.out.block b (Qad hcb)).trans hcb;have c0:wr.cell? ⟨b,off+i*2,none⟩=some (.string u.1):=Qaa hwb hcc.1;have c1:wr.cell? ⟨b,off+i*2+1,none⟩=some (.string u.2):=Qaa hwb hcc.2;have HX:=Hi hu;clear hu hcb hcc hwb hgd
   go_upto_region 14 with(fail)
   refine QaB fun w3 hw3=>?_
   have B3:Below wr.heap.size wr w3:=by rw[hw3];exact Qab wr _
   have heb:w3.heap[wr.heap.size]? =some (.cells #[.string u.1,.string u.2] 167 (0,0)):=by rw[hw3];exact heap_alloc_new _ _
   have hz3:w3.heap.size=wr.heap.size+1:=by rw[hw3];simp
   clear hw3 c0 c1;have hY3:=Bk B3 hY;have hltA:=Qf8 HA.out;have hgeA:∀k,(Value.slice pA i cA).ownBlock=some k→w.heap.size+3≤k:=fun k hk=>(Qa5 HA.out hk).1
   have hA3:=Qaj (S:=fun _=>False) HA.out (.below B3) (fun _ h=>h.elim);refine QbE (by kernel_rfl) (by kernel_rfl) 7 (by decide) ?hcl ?htl (R1 56 2 (.slice pA i cA) (w.heap.size+3) i (Qav (l.take i)) [.string u.1,.string u.2]) (ΦS (w.heap.size+3) (w.heap.size+1+1) w3.heap.size (.slice pA i cA) i u (Qav (l.take i))) R1.drew (fun a b c h k=>h.trans k) ?hphi ?hop ?hlast
   case hcl =>
    intro listed hc hL j hj
    match j,hj with
    | 0,_=>exact hL _ rfl {on:=0,ground:=.phase} (by simp) rfl
    | 1,_=>exact hL _ rfl {on:=1,ground:=.phase} (by simp) rfl
    | 2,_=>exact hL _ rfl {on:=2,ground:=.phase} (by simp) rfl
    | 3,_=>exact hL _ rfl {on:=3,ground:=.phase} (by simp) rfl
    | 4,_=>exact hL _ rfl {on:=4,ground:=.phase} (by simp) rfl
    | 5,_=>exact hL _ rfl {on:=5,ground:=.phase} (by simp) rfl
    | 6,_=>exact hL _ rfl {on:=6,ground:=.data} (by simp) rfl
   case htl =>
    intro j o hj ho
    match j,hj,ho with
    | j+8,_,ho=>simp at ho
   case hphi =>
    intro j u w5 w6 hE h;exact h.kept hE (fun k hk=>by have:=hltA k hk;omega)
   case hop =>
    have hHs:∀w6,R1 56 2 (.slice pA i cA) (w.heap.size+3) i (Qav (l.take i)) [.string u.1,.string u.2] w3 w6→w6.heap[w.heap.size+1+1]? =some (.cells #[.int .i64 3,.string ⟨#[]⟩,.string ⟨#[]⟩,.slice pA i cA,.string ⟨#[]⟩] 59 (0,0))∧w6.heap[wr.heap.size]? =some (.cells #[.string u.1,.string u.2] 167 (0,0))∧w3.heap.size≤w6.heap.size:=fun w6 hE =>
     ⟨hE.ext.heap (fun e=>by have:=hgeA _ e;omega) hY3,hE.ext.heap (fun e=>by have:=hltA _ e;omega) heb,hE.ext.size⟩
    intro j o hj hi
    match j,hi,hj with
    | 0,hi,_ =>
     obtain rfl:=Option.some.inj hi;intro a1 w6 hE hoth hpre;exact Qaw 59 (.tmp 6) 2 rfl _ (hoth 6 (by decide)) _ (QeH w6 _) ⟨R1.refl,_,rfl,rfl⟩
    | 1,hi,_ =>
     obtain rfl:=Option.some.inj hi;intro a1 w6 hE hoth hpre;have h0:=hpre {on:=0,ground:=.data} (by simp) rfl _ rfl;exact QaO 57 (.tmp 37) rfl _ h0 _ (ld57 w6 _ _ _ _ _ (Qaa (hHs w6 hE).1 rfl)) ⟨R1.refl,_,rfl,rfl⟩
    | 2,hi,_ =>
     obtain rfl:=Option.some.inj hi;intro a1 w6 hE hoth hpre;exact QaO 167 (.tmp 8) rfl _ (hoth 8 (by decide)) _ (ld167 w6 _ _ _ (Qaa (hHs w6 hE).2.1 rfl) (Qaa (hHs w6 hE).2.1 rfl)) ⟨R1.refl,_,rfl,rfl⟩
    | 3,hi,_ =>
     obtain rfl:=Option.some.inj hi;intro a1 w6 hE hoth hpre;have h0:=hpre {on:=2,ground:=.data} (by simp) rfl _ rfl;refine Qcx 63 _ _ rfl _ Tryz.func63 (by kernel_rfl) (by kernel_rfl) [.agg #[.string u.1,.string u.2]] ?_ (fun y w'=>y=.agg #[.string u.1,.string u.2]∧Below w6.heap.size w6 w') ?_ ?_
     ·have h1':a1.eval (.tmp 39)=.agg #[.string u.1,.string u.2]:=h0
      simp only[List.map_cons,List.map_nil,h1']
     ·exact Calls.mono (QfG _ _ w6) (fun e w' h=>⟨_,h.1,rfl,h.2⟩)
     ·rintro y w'⟨rfl,hb⟩
      exact⟨R1.below hb,_,rfl,rfl⟩
    | 4,hi,_ =>
     obtain rfl:=Option.some.inj hi;intro a1 w6 hE hoth hpre;have h0:=hpre {on:=3,ground:=.data} (by simp) rfl _ rfl;exact wpo_bs57 40 rfl _ _ h0 ⟨R1.alloc _,_,rfl,_,rfl,heap_alloc_new w6 _,(hHs w6 hE).2.2⟩
    | 5,hi,_ =>
     obtain rfl:=Option.some.inj hi;intro a1 w6 hE hoth hpre;have h1:=hpre {on:=1,ground:=.data} (by simp) rfl _ rfl;have h4:=hpre {on:=4,ground:=.data} (by simp) rfl _ rfl;obtain⟨blk,hb1,hb2,hb3⟩:=h4;exact QcX sl57 (.tmp 38) (.tmp 41) rfl (w.heap.size+3) _ i _ h1 (hE.a0 hA3) blk [.string u.1,.string u.2] rfl hb1 (fun j u hj=>Qaa hb2 (by simpa using hj)) (fun v hv=>by simp at hv;rcases hv with rfl | rfl<;>rfl) (by unfold maxLen;omega) (by omega) (by have:=(hHs w6 hE).2.2;omega) (fun v' w' q1 q2 q3 q4 q5=>⟨R1.grow q2 q3 q5,v',rfl,q1⟩)
    | 6,hi,_ =>
     obtain rfl:=Option.some.inj hi;intro a1 w6 hE hoth hpre;exact Qaw 59 (.tmp 6) 2 rfl _ (hoth 6 (by decide)) _ (QeH w6 _) ⟨R1.refl,_,rfl,rfl⟩
    | j+7,_,hj=>omega
   case hlast =>
    intro a1 W2 hF k;have h5:W2.ownsRow (w.heap.size+3) 56 2 (a1.tmps.getD 42 undef) (i+1) (Qav (l.take i)++[.string u.1,.string u.2]):=hF.facts 5 _ rfl rfl;have h11:a1.tmps.getD 43 undef=.pointer (some ⟨w.heap.size+1+1,3,none⟩):=hF.facts 6 _ rfl rfl;have hE:=hF.ext;obtain⟨fs,hfr,_⟩:=hF.frame;clear hF;obtain⟨p5,c5,hv5,-⟩:=RwU.own h5;rw[hv5]at h5;have hYW:=hE.ext.heap (fun e=>by have:=hgeA _ e;omega) hY3
    have hY8:=Qac (o:=3) hYW (.slice p5 (i+1) c5);refine Qcu (k:=k) (i:=7) (by kernel_rfl) rfl rfl ?_;refine Qct 57 (.tmp 43) (.tmp 42) rfl _ h11 _ hv5 _ (st57 W2 _ _ _ _ _ _ (Qaa hYW rfl) (Qae hYW 3)) ?_;refine Qd4 (by kernel_rfl) ?_ k;obtain⟨W9,hW9⟩:∃W9,W2.setCell ⟨w.heap.size+1+1,3,none⟩ (.slice p5 (i+1) c5)=W9:=⟨_,rfl⟩
    have hE9:Ext (·=w.heap.size+1+1) W2 W9:=by rw[←hW9];exact(Ext.refl (·=w.heap.size+1+1) W2).set (p:=⟨_,3,none⟩) (.inl rfl) _
    rw[hW9]at hY8 ⊢;clear hW9;have hBall:Below w.heap.size w W9:=(((Ext.below (S:=fun _=>False) (HB.out.trans (B3.mono HB.out.size))).trans' hE.ext (fun d hd=>.inr (by have:=hgeA _ hd;omega))).trans' hE9 (fun d hd=>.inr (by omega))).toBelow (fun _ h=>h.elim) (Nat.le_refl _);have hR9:W9.heap[w.heap.size]? =some (.cells sZero 59 (0,0)):=hE9.heap (by omega) (hE.ext.heap (fun e=>by have:=hgeA _ e;omega) ((B3.block _ (Qad HR.out)).trans HR.out))
    have hz2:=hE.ext.size;have hkt:Qav (l.take (i+1))=Qav (l.take i)++[.string u.1,.string u.2]:=by rw[List.take_add_one,HX.out,Option.toList];exact Qbm _ _ _
    have HEND:Hid (SsRl w l (.int .i64 ((i:Int)+1)) W9):=Hi ⟨i+1,_,by go_num,by omega,hR9,hY8,by rw[hkt];exact Qaj h5 hE9 (fun d hd=>by omega),hBall,by have:=hE9.size;omega⟩;clear hBall hR9 hkt;subst hfr;rw[show Qbi _=[37,38,39,40,41,42,43]from rfl];simp (config:={decide:=true}) only[List.mapIdx_toArray,List.mapIdx_cons,List.mapIdx_nil,Nat.zero_add,Nat.reduceAdd,if_true,if_false,Act.put,List.setIfInBounds_toArray,List.set_cons_zero,List.set_cons_succ]
    clear h5 hv5 h11 hE hE9 hYW hY8;go_wp2;go_roundw
    case rel=>exact HEND.out
    case measure=>simp[intOf];omega
  ·obtain rfl:i=l.length:=by omega
   obtain⟨p5,c5,he5,hrA⟩:=RwU.own HA.out;cases he5;have HRO:=Hi hrA;clear hrA;have k0:wr.cell? ⟨w.heap.size+1+1,0,none⟩=some (.int .i64 3):=Qaa hY rfl;have k1:wr.cell? ⟨w.heap.size+1+1,1,none⟩=some (.string ⟨#[]⟩):=Qaa hY rfl;have k2:wr.cell? ⟨w.heap.size+1+1,2,none⟩=some (.string ⟨#[]⟩):=Qaa hY rfl;have k3:wr.cell? ⟨w.heap.size+1+1,3,none⟩=some (.slice pA l.length cA):=Qaa hY rfl;have k4:wr.cell? ⟨w.heap.size+1+1,4,none⟩=some (.string ⟨#[]⟩):=Qaa hY rfl
   clear hY;obtain⟨e0,e1,e2,e3,e4,f0,f1,f2,f3,f4⟩:=zero5 HR.out
   go_wp2_with fail
   obtain⟨w9,hw9,h9,hE⟩:=box5 HR.out rfl (.int .i64 3) (.string ⟨#[]⟩) (.string ⟨#[]⟩) (.slice pA l.length cA) (.string ⟨#[]⟩);rw[hw9];clear hw9;refine QdP _ 2 (by kernel_rfl) rfl rfl h9 ?_;refine⟨((Ext.below (S:=fun _=>False) HB.out).trans' hE (fun d hd=>by omega)).toBelow (fun _ h=>h.elim) (Nat.le_refl _),_,⟨pA,cA,rfl,?_⟩,rfl⟩;have hrA:=HRO.out;rw[List.take_of_length_le (Nat.le_refl _)]at hrA;exact hrA.ext (U':=(w.heap.size≤·)) hE (fun d hd _=>by omega)
theorem scope_c{s:Scp}(hl:∀l,s=.inSet l→l.length≤1000000){w:World}{lo:Nat}{v:Value}(h:ScIs w lo allV v s):Calls Tryz.prog 50 #[v] w (ScsP w (toSc s)):=by
 cases s with
 | all=>cases h;exact QhP _ _ w rfl
 | eq u=>cases h;exact scope_eq u w
 | within u=>cases h;exact QeG u w
 | inSet l=>obtain⟨p,c,rfl,hr⟩:=h;exact QhR l (hl l rfl) w lo c p hr
 | is s=>cases h;exact scope_is s w
 | isIn s u=>cases h;exact Qgn s u w
end Go.Proofs.Pg
