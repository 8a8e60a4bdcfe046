/- FnDecodeAll, part 38. -/
import Derived.Test.YtmhjkkkhdlnngaaGreatDoorZ34
import Derived.Test.YtmhjkkkhdlnngaaGreatDoorZ35
import Derived.Test.YtmhjkkkhdlnngaaGreatDoorZ37
set_option linter.all false
set_option maxRecDepth 100000
set_option maxHeartbeats 0
namespace Go.Proofs.Pg
open Go.RowKit Go.Proofs.Tryz
attribute [local go_sem] Oper.semAt_some
def lit2:List UInt8:=[112,101,114,109,105,116,40,112,114,105,110,99,105,112,97,108,44,97,99,116,105,111,110,44,114,101,115,111,117,114,99,101,41,59,10,102,111,114,98,105,100,40,112,114,105,110,99,105,112,97,108,44,97,99,116,105,111,110,44,114,101,115,111,117,114,99,101,41,59]
theorem lit_pols:(Qit lx lit2).map (fun l=>l.map (fun P=>(Qb1 P).forbid))=some [false,true]:=by kernel_rfl
theorem lit_two:∃P0 P1,Qit lx lit2=some [P0,P1]∧(Qb1 P0).forbid=false∧(Qb1 P1).forbid=true:=by
 have h:=lit_pols;cases hp:Qit lx lit2 with
 | none=>rw[hp]at h;cases h
 | some ps =>
  rw[hp]at h;have h2:=Xd h;cases ps with
  | nil=>cases h2
  | cons P0 ps =>
   cases ps with
   | nil=>simp at h2
   | cons P1 ps =>
    cases ps with
    | nil =>
     simp only[List.map_cons,List.map_nil,List.cons.injEq,and_true]at h2;exact⟨P0,P1,rfl,h2.1,h2.2⟩
    | cons P2 ps=>simp at h2
theorem PpIs.hd{w:World}{U:Nat→Prop}{cs:List Value}{P:PPol}(h:PpIs w U cs P):cs[0]? =some (.bool P.forbid):=by
 obtain⟨pn,cn,s1,s2,s3,pc,cc,cells,rfl,-⟩:=h;rfl
theorem Qi6(w:World)(hG:Glob w)(a0:Addr)(u0:Value)(hE:w.cell? ⟨0,0,none⟩=some (.iface 346 (.pointer (some a0))))(ha:w.cell? a0=some u0)(h15:15≤w.heap.size):Calls prog 16 #[] w (SeP w):=by
 have hak:=QcN ha;have HA:=Hi (Xc hG (Xc hE ha));clear hG hE ha;go_enter func16,ntmps16
 go_wp2_with fail
 have B1:=Qab w (.cells #[.int .i64 7] 3);have HD:=Hi (dal_c ⟨lit2.toArray⟩ (by decide) (some ⟨w.heap.size,0,none⟩) 1 1 (w.alloc (.cells #[.int .i64 7] 3)) (HA.out.1.same (fun b hb=>B1.block b (by omega))) a0 u0 ((B1.cell (p:=⟨0,0,none⟩) (show 0<w.heap.size by omega)).trans HA.out.2.1) ((B1.cell hak).trans HA.out.2.2) (Xe h15 B1.size) (by unfold maxLen;omega) (.inr ⟨w.heap.size,0,rfl,fun j hj=>⟨7,by have h0:j=0:=(by omega);subst h0;exact Qaa (Xa w _) rfl⟩⟩))
 refine HD.out.mono ?_;rintro e w2⟨B2,h2⟩;obtain⟨P0,P1,hps,f0,f1⟩:=lit_two;rw[show(⟨lit2.toArray⟩:ByteArray).data.toList=lit2 from rfl,hps]at h2;obtain⟨p,c,rfl,hpos⟩:=h2;obtain⟨b,o,rfl,_,ds0,px0,q0⟩:=Qi2 hpos (i:=0) rfl;obtain⟨b',o',e',_,ds1,px1,q1⟩:=Qi2 hpos (i:=1) rfl;cases e';have r0:=q0 0 _ px0.hd;have r1:=q1 0 _ px1.hd;rw[f0]at r0;rw[f1]at r1;simp only[Nat.zero_mul,Nat.one_mul,Nat.add_zero]at r0 r1
 have HB:=Hi (B1.trans (B2.mono B1.size));clear hpos px0 px1 q0 q1 hps f0 f1 B1 B2 HD
 go_wp2_with fail
 go_ret;exact⟨rfl,HB.out⟩
structure Env(w:World)(a0:Addr)(u0:Value):Prop where
 g:Glob w
 e:w.cell? ⟨0,0,none⟩=some (.iface 346 (.pointer (some a0)))
 a:w.cell? a0=some u0
 h:15≤w.heap.size
theorem Env.later{w w':World}{a0:Addr}{u0:Value}(h:Env w a0 u0)(hb:Below w.heap.size w w'):Env w' a0 u0 :=
 ⟨h.g.same (fun b hl=>hb.block b (by have:=h.h;omega)),(hb.cell (p:=⟨0,0,none⟩) (show 0<w.heap.size by have:=h.h;omega)).trans h.e,(hb.cell (QcN h.a)).trans h.a,Xe h.h hb.size⟩
theorem QiX(s:ByteArray)(p:Option Addr)(m cp:Nat)(w:World)(a0:Addr)(u0:Value)(hV:Env w a0 u0)(hm:m≤cp∧cp≤maxLen)(hc:m=0∨∃d o,p=some ⟨d,o,none⟩∧∀j,j<m→∃x,w.cell? ⟨d,o+j,none⟩=some (.int .i64 x)):Calls prog 4 #[.string s,.slice p m cp] w (SeP w):=by
 have HV:=Hi hV;clear hV;have HC:=Hi hc;clear hc;go_enter func4,ntmps4;by_cases g1:2147483647<s.size
 ·have g1':(2147483647:Int)<(s.size:Int):=by omega
  go_wp2_with fail
  go_ret;exact⟨rfl,.refl _ _⟩
 have g1':¬(2147483647:Int)<(s.size:Int):=by omega
 by_cases g2:2147483647<m
 ·have g2':(2147483647:Int)<(m:Int):=by omega
  go_wp2_with fail
  go_ret;exact⟨rfl,.refl _ _⟩
 have g2':¬(2147483647:Int)<(m:Int):=by omega
 have HST:=Hi (QiG s (by omega) w HV.out.g.tabs);by_cases h0:s.size=0
 case' pos =>
  have hz:(s.toList==[])=true:=by rw[Qiz];simp;exact Array.eq_empty_of_size_eq_zero h0
  by_cases g6:6000<m
  ·have g6':(6000:Int)<(m:Int):=by omega
   go_wp2_with fail
   go_ret;exact⟨rfl,.refl _ _⟩
  have g6':¬(6000:Int)<(m:Int):=by omega
  have hs5:s.size≤5000:=by omega
  go_upto_region 5 with(fail)
  refine Qba fun w1 hw1=>?_
  obtain rfl:w1=w:=hw1;have HB1:Hid (Below w1.heap.size w1 w1):=Hi (.refl _ _)
 case' neg =>
  have hz:(s.toList==[])=false:=by rw[Qiz];simp;exact fun h=>h0 (by show s.data.size=0;rw[h];rfl)
  go_wp2_with fail
  refine HST.out.mono ?_;rintro e w1⟨⟨b,rfl,hb⟩,B1⟩;have HB1:=Hi B1;clear B1;cases b
  ·go_wp2_with fail
   go_ret;exact⟨rfl,HB1.out⟩
  have hs5:s.size≤5000:=hb rfl;clear hb;by_cases g6:6000<m
  ·have g6':(6000:Int)<(m:Int):=by omega
   go_wp2_with fail
   go_ret;exact⟨rfl,HB1.out⟩
  have g6':¬(6000:Int)<(m:Int):=by omega
  go_upto_region 5 with(fail)
 all_goals
  have V1:=HV.out.later HB1.out;have hs1:=HB1.out.size;have hcw:m=0∨∃d o,p=some ⟨d,o,none⟩∧∀j,j<m→∃x,w1.cell? ⟨d,o+j,none⟩=some (.int .i64 x) :=
   HC.out.imp id (fun⟨d,o,e,h⟩=>⟨d,o,e,fun j hj=>by obtain⟨x,hx⟩:=h j hj;exact⟨x,(HB1.out.cell (QcN hx)).trans hx⟩⟩)
  have HD:=Hi (dal_c s (by omega) p m cp w1 V1.g a0 u0 V1.e V1.a V1.h ⟨by omega,hm.1,hm.2⟩ hcw);have HVV:=Hi V1;have HOK:=Hi (fun ps (h:Qit lx s.data.toList=some ps)=>Qi4 (show s.data.size≤800000 from(by show s.size≤800000;omega)) h);clear HST hcw V1
  go_wp2_with fail
  refine HD.out.mono ?_;rintro e w2⟨B2,h2⟩;have V2:=HVV.out.later B2;have HP:=Hi (pas_c s (by omega) w2 ⟨V2.g,⟨a0,V2.e⟩,V2.h⟩);have HV2:=Hi V2;have HB2:=Hi (HB1.out.trans (B2.mono hs1));have hs2:=HB2.out.size;clear V2 B2;cases hR:Qit lx s.data.toList with
  | none =>
   rw[hR]at h2;subst h2;have HR:=Hi hR;clear hR
   go_wp2_with fail
   refine HP.out.mono ?_;rintro e w3⟨B3,h3⟩;rw[HR.out]at h3;subst h3;have V3:=HV2.out.later B3;have HV3:=Hi V3;have HB3:=Hi (HB2.out.trans (B3.mono hs2));clear V3 B3
   go_wp2_with fail
   refine(Qi6 w3 HV3.out.g a0 u0 HV3.out.e HV3.out.a HV3.out.h).mono ?_;rintro e w4⟨rfl,B4⟩;have HB4:=Hi (HB3.out.trans (B4.mono HB3.out.size));clear B4
   go_wp2_with fail
   go_ret;exact⟨rfl,HB4.out⟩
  | some ps =>
   rw[hR]at h2;obtain⟨p2,c2,rfl,hp2⟩:=h2;have HR:=Hi hR;clear hR;have HQ2:=Hi hp2;clear hp2
   go_wp2_with fail
   refine HP.out.mono ?_;rintro e w3⟨B3,h3⟩;rw[HR.out]at h3;obtain⟨p3,c3,rfl,hp3⟩:=h3;have V3:=HV2.out.later B3;have HV3:=Hi V3;have HQ3:=Hi (Xc (HQ2.out.after B3) hp3);have HB3:=Hi (HB2.out.trans (B3.mono hs2));clear V3 B3 hp3
   go_wp2_with fail
   refine(Qi6 w3 HV3.out.g a0 u0 HV3.out.e HV3.out.a HV3.out.h).mono ?_;rintro e w4⟨rfl,B4⟩;have hok:=HOK.out ps HR.out;have HS:Hid (Calls prog 17 #[.slice p2 ps.length c2,.slice p3 ps.length c3,.func (.func 12) #[] #[]] w4 (SeP w4)):=Hi (by
    have:=sps_c (ps.map Qb1) (by rw[List.length_map];exact hok.2) (fun Q hQ=>by obtain⟨P,hP,rfl⟩:=List.mem_map.1 hQ;exact spOk_of (hok.1 P hP)) w4 _ _ p2 p3 c2 c3 (HQ3.out.1.after B4) (HQ3.out.2.after B4)
    rwa [List.length_map]at this)
   have HB4:=Hi (HB3.out.trans (B4.mono HB3.out.size));clear B4 hok
   go_wp2_with fail
   refine HS.out.mono ?_;rintro e w5⟨rfl,B5⟩;have HB5:=Hi (HB4.out.trans (B5.mono HB4.out.size));clear B5
   go_wp2_with fail
   go_ret;exact⟨rfl,HB5.out⟩
end Go.Proofs.Pg
