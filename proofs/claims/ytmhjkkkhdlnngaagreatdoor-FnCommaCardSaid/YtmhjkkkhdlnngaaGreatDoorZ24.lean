/- FnComma: a last comma changes nothing; for every world. Part 24. -/
import Derived.Test.YtmhjkkkhdlnngaaGreatDoorZ23
import Derived.Deep.RegionLawGrows
set_option linter.all false
set_option maxRecDepth 100000
set_option maxHeartbeats 40000000
namespace Go.Proofs.Pg
open Go.RowKit
attribute [local go_sem] Oper.semAt_some
inductive Scp where
 | all
 | eq (u:ByteArray×ByteArray)
 | within (u:ByteArray×ByteArray)
 | inSet (l:List (ByteArray×ByteArray))
 | is (s:ByteArray)
 | isIn (s:ByteArray)(u:ByteArray×ByteArray)
def ScIs(w:World)(lo:Nat)(old v:Value):Scp→Prop
 | .all=>v=old
 | .eq u=>v=.iface 169 (.agg #[.string u.1,.string u.2])
 | .within u=>v=.iface 171 (.agg #[.string u.1,.string u.2])
 | .inSet l=>∃p c,v=.iface 174 (.agg #[.slice p l.length c])∧Row2At w lo 167 p l.length (fun i=>.string (l.getD i (⟨#[]⟩,⟨#[]⟩)).1) (fun i=>.string (l.getD i (⟨#[]⟩,⟨#[]⟩)).2)
 | .is s=>v=.iface 176 (.agg #[.string s])
 | .isIn s u=>v=.iface 178 (.agg #[.string s,.string u.1,.string u.2])
def Qat(L:Lex)(wd:List UInt8)(ts:Toks):Option (Scp×Toks):=match exact wd ts with
 | none=>none
 | some us=>if(tx us==[61,61])=true then(match entity L (adv us)with
   | none=>none
   | some (u,vs)=>some (.eq u,vs))
  else if(tx us==[105,115])=true then(match path (adv us)with
   | none=>none
   | some (s,vs)=>if(tx vs==[105,110])=true then(match entity L (adv vs)with
     | none=>none
     | some (u,zs)=>some (.isIn s u,zs))else some (.is s,vs))
  else if(tx us==[105,110])=true then(match entity L (adv us)with
   | none=>none
   | some (u,vs)=>some (.within u,vs))
  else some (.all,us)
def ScP(bp base pb:Nat)(w:World)(P:World→Value→Prop)(old:Value)(r:Option (Scp×Toks))(e:Ending)(w':World):Prop :=
 Ext (fun d=>d=bp∨d=pb) w w'∧match r with
 | none=>∃T v,e=.returned (.iface T v)
 | some (s,us)=>∃v,e=.returned .nilIface∧PS w' bp base us∧P w' v∧ScIs w' base old v s
theorem Qbb{bp base pb:Nat}{w w':World}{P:World→Value→Prop}{old:Value}{r:Option (Scp×Toks)}{T:TypeId}{v:Value}(h:r=none)(hX:Ext (·=bp) w w'):ScP bp base pb w P old r (.returned (.iface T v)) w':=by subst h;exact⟨hX.mono (fun d h=>.inl h),_,_,rfl⟩
theorem Qbf{bp base pb:Nat}{w w1 w':World}{P:World→Value→Prop}{old v:Value}{r:Option (Scp×Toks)}{s:Scp}{us:Toks}(h:r=some (s,us))(hX:Ext (·=bp) w w1)(hX2:Ext (·=pb) w1 w')(hp:PS w1 bp base us)(hb:base≤pb)(hP:P w' v)(hs:ScIs w' base old v s):ScP bp base pb w P old r (.returned .nilIface) w':=by
 subst h;exact⟨(hX.mono (fun d h=>.inl h)).trans (hX2.mono (fun d h=>.inr h)),v,rfl,hp.ext hX2 (fun d k=>by subst k;exact hb),hP,hs⟩
theorem Qfb{L:Lex}(hL:LexC L){bp base pb:Nat}{e an pr ac re cs fn off ln col:Value}(w:World)(ts:Toks)(hp:PS w bp base ts)(hwf:Wf ts)(hbs:base≤w.heap.size)(hpb:base≤pb)(hL0:Qa8 w pb e an pr ac re cs fn off ln col) :
  Calls Tryz.prog 71 #[.pointer (some ⟨bp,0,none⟩),.pointer (some ⟨pb,0,none⟩)] w (ScP bp base pb w (fun w' v=>Qa8 w' pb e an v ac re cs fn off ln col) pr (Qat L [112,114,105,110,99,105,112,97,108] ts)):=by
 have hbb:=hp.hbp;have h15:=hp.h15;have hlen:=hp.len;have HL:=Hi hL;clear hL;unfold Qa8 at hL0;have hL_w:=hL0;clear hL0;have ltP:=Qad hL_w;obtain⟨u,q,rfl⟩:∃u q,ts=u::q:=by cases ts with | nil=>exact absurd rfl hp.ne | cons u q=>exact⟨u,q,rfl⟩
 have hwa:=hwf.adv;go_enter Tryz.func71,Tryz.ntmps71;cases ht:(u.tx.toList==[112,114,105,110,99,105,112,97,108])with
 | false =>
  go_wp2_with fail
  refine(Qa9 hp ht).mono ?_;rintro e w1⟨T9,v9,rfl,hp1,hF⟩;have hL1:=hF.heap (by omega) hL_w;have hs1:=hF.size;have hX1:Ext (·=bp) w w1:=hF;clear hL_w hp;clear hF;have HR:=Hi (show Qat L [112,114,105,110,99,105,112,97,108] (u::q)=none by unfold Qat;simp only[exact,tx,Bool.false_eq_true,if_false,if_true,ht]);go_wp2;go_ret;rw[HR.out];exact Qbb rfl hX1
 | true =>
  go_wp2_with fail
  refine(Qa0 hp ht).mono ?_;rintro e w1⟨rfl,hp1,hF⟩;have hL1:=hF.heap (by omega) hL_w;have hs1:=hF.size;have hX1:Ext (·=bp) w w1:=hF;clear hL_w hp;clear hF;obtain⟨u2,q2,ha2⟩:∃a b,adv (u::q)=a::b:=by
   cases h:adv (u::q)with
   | nil=>rw[h]at hwa;exact absurd rfl hwa.ne
   | cons a b=>exact⟨a,b,rfl⟩
  rw[ha2]at hwa hp1;have HA2:=Hi ha2;clear ha2;have hwb:=hwa.adv
  go_wp2_with fail
  refine(Qa7 hp1).mono ?_;rintro e w2⟨rfl,hF⟩;have hL2:=Bk hF hL1;have hs2:=hF.size;have hX_w2:=hX1.trans (.below hF);have hp2:=hp1.below hF;clear hL1 hX1 hp1;clear hF;cases hu:(u2.tx.toList==[61,61])with
  | true =>
   go_wp2_with fail
   refine(Qaz hp2).mono ?_;rintro e w3⟨rfl,hp3,hF⟩;have hL3:=hF.heap (by omega) hL2;have hs3:=hF.size;have hX3:=hX_w2.trans hF;clear hL2 hX_w2 hp2;clear hF
   go_wp2_with fail
   refine(Qb2 HL.out _ (adv (u2::q2)) hp3 hwb (by omega)).mono ?_;rintro e w4⟨hF,hr⟩;have hL4:=hF.heap (by omega) hL3;have hs4:=hF.size;have hX4:=hX3.trans hF;clear hL3 hX3;clear hF;cases hm:entity L (adv (u2::q2))with
   | none =>
    rw[hm]at hr;obtain⟨a9,b9,T9,v9,rfl⟩:=hr;have HR:=Hi (show Qat L [112,114,105,110,99,105,112,97,108] (u::q)=none by unfold Qat;simp only[exact,tx,Bool.false_eq_true,if_false,if_true,ht,HA2.out,hu,hm]);go_wp2;go_ret;rw[HR.out];exact Qbb rfl (hX4.alloc _)
   | some p9 =>
    obtain⟨⟨t9,i9⟩,us⟩:=p9;rw[hm]at hr;obtain⟨rfl,hp9⟩:=hr;have hbx:=Qab w4 (.cells #[.string t9,.string i9] 167)
    go_wp2_with fail
    refine(set97_c t9 i9 (h:=(Qaf hL4 (.cells #[.string t9,.string i9] 167)))).mono ?_;rintro r w5⟨rfl,hPN,hXN⟩;have HR:=Hi (show Qat L [112,114,105,110,99,105,112,97,108] (u::q)=some (.eq (t9,i9),us)by unfold Qat;simp only[exact,tx,Bool.false_eq_true,if_false,if_true,ht,HA2.out,hu,hm]);have HP:=Hi hPN;clear hPN hL4 hm;go_wp2;go_ret;rw[HR.out];exact Qbf rfl (hX4.trans (.below hbx)) hXN (hp9.below hbx) hpb HP.out rfl
  | false =>
   have h_q:=hu;clear hu;cases hu:(u2.tx.toList==[105,115])with
   | true =>
    go_wp2_with fail
    refine(Qaz hp2).mono ?_;rintro e w3⟨rfl,hp3,hF⟩;have hL3:=hF.heap (by omega) hL2;have hs3:=hF.size;have hX3:=hX_w2.trans hF;clear hL2 hX_w2 hp2;clear hF
    go_wp2_with fail
    refine(Qg7 _ (adv (u2::q2)) hp3 hwb (by omega)).mono ?_;rintro e w4⟨hF,hr⟩;have hL4:=hF.heap (by omega) hL3;have hs4:=hF.size;have hX4:=hX3.trans hF;clear hL3 hX3;clear hF;cases hm0:path (adv (u2::q2))with
    | none =>
     rw[hm0]at hr;obtain⟨s9,T9,v9,rfl⟩:=hr;have HR:=Hi (show Qat L [112,114,105,110,99,105,112,97,108] (u::q)=none by unfold Qat;simp only[exact,tx,Bool.false_eq_true,if_false,if_true,ht,HA2.out,h_q,hu,hm0]);go_wp2;go_ret;rw[HR.out];exact Qbb rfl hX4
    | some p0 =>
     obtain⟨s,us0⟩:=p0;rw[hm0]at hr;obtain⟨rfl,hp0,hz⟩:=hr;have hwu:=((QcR _ _ _ hwb hm0).1.wf hwb);have HM0:=Hi hm0;clear hm0;obtain⟨u3,q3,rfl⟩:∃u q,us0=u::q:=by cases us0 with | nil=>exact absurd rfl hp0.ne | cons u q=>exact⟨u,q,rfl⟩
     go_wp2_with fail
     refine(Qa7 hp0).mono ?_;rintro e w5⟨rfl,hF⟩;have hL5:=Bk hF hL4;have hs5:=hF.size;have hX5:=hX4.trans (.below hF);have hp5:=hp0.below hF;clear hL4 hX4 hp0;clear hF;cases hi:(u3.tx.toList==[105,110])with
     | false =>
      have HR:=Hi (show Qat L [112,114,105,110,99,105,112,97,108] (u::q)=some (.is s,u3::q3)by unfold Qat;simp only[exact,tx,Bool.false_eq_true,if_false,if_true,ht,HA2.out,h_q,hu,HM0.out,hi])
      go_wp2_with fail
      refine(set100_c s hL5).mono ?_;rintro r w6⟨rfl,hPN,hXN⟩;have HP:=Hi hPN;clear hPN hL5;go_wp2;go_ret;rw[HR.out];exact Qbf rfl hX5 hXN hp5 hpb HP.out rfl
     | true =>
      go_wp2_with fail
      refine(Qaz hp5).mono ?_;rintro e w6⟨rfl,hp6,hF⟩;have hL6:=hF.heap (by omega) hL5;have hs6:=hF.size;have hX6:=hX5.trans hF;clear hL5 hX5 hp5;clear hF
      go_wp2_with fail
      refine(Qb2 HL.out _ (adv (u3::q3)) hp6 hwu.adv (by omega)).mono ?_;rintro e w7⟨hF,hr⟩;have hL7:=hF.heap (by omega) hL6;have hs7:=hF.size;have hX7:=hX6.trans hF;clear hL6 hX6;clear hF;cases hm:entity L (adv (u3::q3))with
      | none =>
       rw[hm]at hr;obtain⟨a9,b9,T9,v9,rfl⟩:=hr;have HR:=Hi (show Qat L [112,114,105,110,99,105,112,97,108] (u::q)=none by unfold Qat;simp only[exact,tx,Bool.false_eq_true,if_false,if_true,ht,HA2.out,h_q,hu,HM0.out,hi,hm]);go_wp2;go_ret;rw[HR.out];exact Qbb rfl (hX7.alloc _)
      | some p9 =>
       obtain⟨⟨t9,i9⟩,us⟩:=p9;rw[hm]at hr;obtain⟨rfl,hp9⟩:=hr;have hbx:=Qab w7 (.cells #[.string t9,.string i9] 167)
       go_wp2_with fail
       refine(set99_c s t9 i9 (h:=(Qaf hL7 (.cells #[.string t9,.string i9] 167)))).mono ?_;rintro r w8⟨rfl,hPN,hXN⟩;have HR:=Hi (show Qat L [112,114,105,110,99,105,112,97,108] (u::q)=some (.isIn s (t9,i9),us)by unfold Qat;simp only[exact,tx,Bool.false_eq_true,if_false,if_true,ht,HA2.out,h_q,hu,HM0.out,hi,hm]);have HP:=Hi hPN;clear hPN hL7 hm;go_wp2;go_ret;rw[HR.out];exact Qbf rfl (hX7.trans (.below hbx)) hXN (hp9.below hbx) hpb HP.out rfl
   | false =>
    have h_s:=hu;clear hu;cases hu:(u2.tx.toList==[105,110])with
    | true =>
     go_wp2_with fail
     refine(Qaz hp2).mono ?_;rintro e w3⟨rfl,hp3,hF⟩;have hL3:=hF.heap (by omega) hL2;have hs3:=hF.size;have hX3:=hX_w2.trans hF;clear hL2 hX_w2 hp2;clear hF
     go_wp2_with fail
     refine(Qb2 HL.out _ (adv (u2::q2)) hp3 hwb (by omega)).mono ?_;rintro e w4⟨hF,hr⟩;have hL4:=hF.heap (by omega) hL3;have hs4:=hF.size;have hX4:=hX3.trans hF;clear hL3 hX3;clear hF;cases hm:entity L (adv (u2::q2))with
     | none =>
      rw[hm]at hr;obtain⟨a9,b9,T9,v9,rfl⟩:=hr;have HR:=Hi (show Qat L [112,114,105,110,99,105,112,97,108] (u::q)=none by unfold Qat;simp only[exact,tx,Bool.false_eq_true,if_false,if_true,ht,HA2.out,h_q,h_s,hu,hm]);go_wp2;go_ret;rw[HR.out];exact Qbb rfl (hX4.alloc _)
     | some p9 =>
      obtain⟨⟨t9,i9⟩,us⟩:=p9;rw[hm]at hr;obtain⟨rfl,hp9⟩:=hr;have hbx:=Qab w4 (.cells #[.string t9,.string i9] 167)
      go_wp2_with fail
      refine(set101_c t9 i9 (h:=(Qaf hL4 (.cells #[.string t9,.string i9] 167)))).mono ?_;rintro r w5⟨rfl,hPN,hXN⟩;have HR:=Hi (show Qat L [112,114,105,110,99,105,112,97,108] (u::q)=some (.within (t9,i9),us)by unfold Qat;simp only[exact,tx,Bool.false_eq_true,if_false,if_true,ht,HA2.out,h_q,h_s,hu,hm]);have HP:=Hi hPN;clear hPN hL4 hm;go_wp2;go_ret;rw[HR.out];exact Qbf rfl (hX4.trans (.below hbx)) hXN (hp9.below hbx) hpb HP.out rfl
    | false =>
     have HR:=Hi (show Qat L [112,114,105,110,99,105,112,97,108] (u::q)=some (.all,u2::q2)by unfold Qat;simp only[exact,tx,Bool.false_eq_true,if_false,if_true,ht,HA2.out,h_q,h_s,hu]);have HP:=Hi hL2;clear hL2;go_wp2;go_ret;rw[HR.out];exact Qbf rfl hX_w2 (.refl _ _) hp2 hpb HP.out rfl
theorem Qgc{L:Lex}(hL:LexC L){bp base pb:Nat}{e an pr ac re cs fn off ln col:Value}(w:World)(ts:Toks)(hp:PS w bp base ts)(hwf:Wf ts)(hbs:base≤w.heap.size)(hpb:base≤pb)(hL0:Qa8 w pb e an pr ac re cs fn off ln col) :
  Calls Tryz.prog 73 #[.pointer (some ⟨bp,0,none⟩),.pointer (some ⟨pb,0,none⟩)] w (ScP bp base pb w (fun w' v=>Qa8 w' pb e an pr ac v cs fn off ln col) re (Qat L [114,101,115,111,117,114,99,101] ts)):=by
 have hbb:=hp.hbp;have h15:=hp.h15;have hlen:=hp.len;have HL:=Hi hL;clear hL;unfold Qa8 at hL0;have hL_w:=hL0;clear hL0;have ltP:=Qad hL_w;obtain⟨u,q,rfl⟩:∃u q,ts=u::q:=by cases ts with | nil=>exact absurd rfl hp.ne | cons u q=>exact⟨u,q,rfl⟩
 have hwa:=hwf.adv;go_enter Tryz.func73,Tryz.ntmps73;cases ht:(u.tx.toList==[114,101,115,111,117,114,99,101])with
 | false =>
  go_wp2_with fail
  refine(Qa9 hp ht).mono ?_;rintro e w1⟨T9,v9,rfl,hp1,hF⟩;have hL1:=hF.heap (by omega) hL_w;have hs1:=hF.size;have hX1:Ext (·=bp) w w1:=hF;clear hL_w hp;clear hF;have HR:=Hi (show Qat L [114,101,115,111,117,114,99,101] (u::q)=none by unfold Qat;simp only[exact,tx,Bool.false_eq_true,if_false,if_true,ht]);go_wp2;go_ret;rw[HR.out];exact Qbb rfl hX1
 | true =>
  go_wp2_with fail
  refine(Qa0 hp ht).mono ?_;rintro e w1⟨rfl,hp1,hF⟩;have hL1:=hF.heap (by omega) hL_w;have hs1:=hF.size;have hX1:Ext (·=bp) w w1:=hF;clear hL_w hp;clear hF;obtain⟨u2,q2,ha2⟩:∃a b,adv (u::q)=a::b:=by
   cases h:adv (u::q)with
   | nil=>rw[h]at hwa;exact absurd rfl hwa.ne
   | cons a b=>exact⟨a,b,rfl⟩
  rw[ha2]at hwa hp1;have HA2:=Hi ha2;clear ha2;have hwb:=hwa.adv
  go_wp2_with fail
  refine(Qa7 hp1).mono ?_;rintro e w2⟨rfl,hF⟩;have hL2:=Bk hF hL1;have hs2:=hF.size;have hX_w2:=hX1.trans (.below hF);have hp2:=hp1.below hF;clear hL1 hX1 hp1;clear hF;cases hu:(u2.tx.toList==[61,61])with
  | true =>
   go_wp2_with fail
   refine(Qaz hp2).mono ?_;rintro e w3⟨rfl,hp3,hF⟩;have hL3:=hF.heap (by omega) hL2;have hs3:=hF.size;have hX3:=hX_w2.trans hF;clear hL2 hX_w2 hp2;clear hF
   go_wp2_with fail
   refine(Qb2 HL.out _ (adv (u2::q2)) hp3 hwb (by omega)).mono ?_;rintro e w4⟨hF,hr⟩;have hL4:=hF.heap (by omega) hL3;have hs4:=hF.size;have hX4:=hX3.trans hF;clear hL3 hX3;clear hF;cases hm:entity L (adv (u2::q2))with
   | none =>
    rw[hm]at hr;obtain⟨a9,b9,T9,v9,rfl⟩:=hr;have HR:=Hi (show Qat L [114,101,115,111,117,114,99,101] (u::q)=none by unfold Qat;simp only[exact,tx,Bool.false_eq_true,if_false,if_true,ht,HA2.out,hu,hm]);go_wp2;go_ret;rw[HR.out];exact Qbb rfl (hX4.alloc _)
   | some p9 =>
    obtain⟨⟨t9,i9⟩,us⟩:=p9;rw[hm]at hr;obtain⟨rfl,hp9⟩:=hr;have hbx:=Qab w4 (.cells #[.string t9,.string i9] 167)
    go_wp2_with fail
    refine(set106_c t9 i9 (h:=(Qaf hL4 (.cells #[.string t9,.string i9] 167)))).mono ?_;rintro r w5⟨rfl,hPN,hXN⟩;have HR:=Hi (show Qat L [114,101,115,111,117,114,99,101] (u::q)=some (.eq (t9,i9),us)by unfold Qat;simp only[exact,tx,Bool.false_eq_true,if_false,if_true,ht,HA2.out,hu,hm]);have HP:=Hi hPN;clear hPN hL4 hm;go_wp2;go_ret;rw[HR.out];exact Qbf rfl (hX4.trans (.below hbx)) hXN (hp9.below hbx) hpb HP.out rfl
  | false =>
   have h_q:=hu;clear hu;cases hu:(u2.tx.toList==[105,115])with
   | true =>
    go_wp2_with fail
    refine(Qaz hp2).mono ?_;rintro e w3⟨rfl,hp3,hF⟩;have hL3:=hF.heap (by omega) hL2;have hs3:=hF.size;have hX3:=hX_w2.trans hF;clear hL2 hX_w2 hp2;clear hF
    go_wp2_with fail
    refine(Qg7 _ (adv (u2::q2)) hp3 hwb (by omega)).mono ?_;rintro e w4⟨hF,hr⟩;have hL4:=hF.heap (by omega) hL3;have hs4:=hF.size;have hX4:=hX3.trans hF;clear hL3 hX3;clear hF;cases hm0:path (adv (u2::q2))with
    | none =>
     rw[hm0]at hr;obtain⟨s9,T9,v9,rfl⟩:=hr;have HR:=Hi (show Qat L [114,101,115,111,117,114,99,101] (u::q)=none by unfold Qat;simp only[exact,tx,Bool.false_eq_true,if_false,if_true,ht,HA2.out,h_q,hu,hm0]);go_wp2;go_ret;rw[HR.out];exact Qbb rfl hX4
    | some p0 =>
     obtain⟨s,us0⟩:=p0;rw[hm0]at hr;obtain⟨rfl,hp0,hz⟩:=hr;have hwu:=((QcR _ _ _ hwb hm0).1.wf hwb);have HM0:=Hi hm0;clear hm0;obtain⟨u3,q3,rfl⟩:∃u q,us0=u::q:=by cases us0 with | nil=>exact absurd rfl hp0.ne | cons u q=>exact⟨u,q,rfl⟩
     go_wp2_with fail
     refine(Qa7 hp0).mono ?_;rintro e w5⟨rfl,hF⟩;have hL5:=Bk hF hL4;have hs5:=hF.size;have hX5:=hX4.trans (.below hF);have hp5:=hp0.below hF;clear hL4 hX4 hp0;clear hF;cases hi:(u3.tx.toList==[105,110])with
     | false =>
      have HR:=Hi (show Qat L [114,101,115,111,117,114,99,101] (u::q)=some (.is s,u3::q3)by unfold Qat;simp only[exact,tx,Bool.false_eq_true,if_false,if_true,ht,HA2.out,h_q,hu,HM0.out,hi])
      go_wp2_with fail
      refine(set108_c s hL5).mono ?_;rintro r w6⟨rfl,hPN,hXN⟩;have HP:=Hi hPN;clear hPN hL5;go_wp2;go_ret;rw[HR.out];exact Qbf rfl hX5 hXN hp5 hpb HP.out rfl
     | true =>
      go_wp2_with fail
      refine(Qaz hp5).mono ?_;rintro e w6⟨rfl,hp6,hF⟩;have hL6:=hF.heap (by omega) hL5;have hs6:=hF.size;have hX6:=hX5.trans hF;clear hL5 hX5 hp5;clear hF
      go_wp2_with fail
      refine(Qb2 HL.out _ (adv (u3::q3)) hp6 hwu.adv (by omega)).mono ?_;rintro e w7⟨hF,hr⟩;have hL7:=hF.heap (by omega) hL6;have hs7:=hF.size;have hX7:=hX6.trans hF;clear hL6 hX6;clear hF;cases hm:entity L (adv (u3::q3))with
      | none =>
       rw[hm]at hr;obtain⟨a9,b9,T9,v9,rfl⟩:=hr;have HR:=Hi (show Qat L [114,101,115,111,117,114,99,101] (u::q)=none by unfold Qat;simp only[exact,tx,Bool.false_eq_true,if_false,if_true,ht,HA2.out,h_q,hu,HM0.out,hi,hm]);go_wp2;go_ret;rw[HR.out];exact Qbb rfl (hX7.alloc _)
      | some p9 =>
       obtain⟨⟨t9,i9⟩,us⟩:=p9;rw[hm]at hr;obtain⟨rfl,hp9⟩:=hr;have hbx:=Qab w7 (.cells #[.string t9,.string i9] 167)
       go_wp2_with fail
       refine(set107_c s t9 i9 (h:=(Qaf hL7 (.cells #[.string t9,.string i9] 167)))).mono ?_;rintro r w8⟨rfl,hPN,hXN⟩;have HR:=Hi (show Qat L [114,101,115,111,117,114,99,101] (u::q)=some (.isIn s (t9,i9),us)by unfold Qat;simp only[exact,tx,Bool.false_eq_true,if_false,if_true,ht,HA2.out,h_q,hu,HM0.out,hi,hm]);have HP:=Hi hPN;clear hPN hL7 hm;go_wp2;go_ret;rw[HR.out];exact Qbf rfl (hX7.trans (.below hbx)) hXN (hp9.below hbx) hpb HP.out rfl
   | false =>
    have h_s:=hu;clear hu;cases hu:(u2.tx.toList==[105,110])with
    | true =>
     go_wp2_with fail
     refine(Qaz hp2).mono ?_;rintro e w3⟨rfl,hp3,hF⟩;have hL3:=hF.heap (by omega) hL2;have hs3:=hF.size;have hX3:=hX_w2.trans hF;clear hL2 hX_w2 hp2;clear hF
     go_wp2_with fail
     refine(Qb2 HL.out _ (adv (u2::q2)) hp3 hwb (by omega)).mono ?_;rintro e w4⟨hF,hr⟩;have hL4:=hF.heap (by omega) hL3;have hs4:=hF.size;have hX4:=hX3.trans hF;clear hL3 hX3;clear hF;cases hm:entity L (adv (u2::q2))with
     | none =>
      rw[hm]at hr;obtain⟨a9,b9,T9,v9,rfl⟩:=hr;have HR:=Hi (show Qat L [114,101,115,111,117,114,99,101] (u::q)=none by unfold Qat;simp only[exact,tx,Bool.false_eq_true,if_false,if_true,ht,HA2.out,h_q,h_s,hu,hm]);go_wp2;go_ret;rw[HR.out];exact Qbb rfl (hX4.alloc _)
     | some p9 =>
      obtain⟨⟨t9,i9⟩,us⟩:=p9;rw[hm]at hr;obtain⟨rfl,hp9⟩:=hr;have hbx:=Qab w4 (.cells #[.string t9,.string i9] 167)
      go_wp2_with fail
      refine(set109_c t9 i9 (h:=(Qaf hL4 (.cells #[.string t9,.string i9] 167)))).mono ?_;rintro r w5⟨rfl,hPN,hXN⟩;have HR:=Hi (show Qat L [114,101,115,111,117,114,99,101] (u::q)=some (.within (t9,i9),us)by unfold Qat;simp only[exact,tx,Bool.false_eq_true,if_false,if_true,ht,HA2.out,h_q,h_s,hu,hm]);have HP:=Hi hPN;clear hPN hL4 hm;go_wp2;go_ret;rw[HR.out];exact Qbf rfl (hX4.trans (.below hbx)) hXN (hp9.below hbx) hpb HP.out rfl
    | false =>
     have HR:=Hi (show Qat L [114,101,115,111,117,114,99,101] (u::q)=some (.all,u2::q2)by unfold Qat;simp only[exact,tx,Bool.false_eq_true,if_false,if_true,ht,HA2.out,h_q,h_s,hu]);have HP:=Hi hL2;clear hL2;go_wp2;go_ret;rw[HR.out];exact Qbf rfl hX_w2 (.refl _ _) hp2 hpb HP.out rfl
def Qcg(L:Lex):Nat→List (ByteArray×ByteArray)→Toks→Option (List (ByteArray×ByteArray)×Toks)
 | 0,_,_=>none
 | f+1,acc,ts=>if(tx ts==[93])=true then some (acc,ts)else match entity L ts with
  | none=>none
  | some (x,us)=>if(tx us==[44])=true then Qcg L f (acc++[x]) (adv us)else if(tx us==[93])=true then some (acc++[x],us)else none
def uids(L:Lex)(ts:Toks):Option (List (ByteArray×ByteArray)×Toks):=Qcg L (ts.length+1) [] ts
def Qav:List (ByteArray×ByteArray)→List Value
 | []=>[]
 | u::l=>.string u.1::.string u.2::Qav l
theorem Qbm:∀(l:List (ByteArray×ByteArray))(t i:ByteArray),Qav (l++[(t,i)])=Qav l++[.string t,.string i]
 | [],t,i=>rfl
 | u::l,t,i=>by rw[List.cons_append,Qav,Qbm l t i];rfl
theorem Qcd:∀(l:List (ByteArray×ByteArray))(i:Nat),i<l.length→(Qav l)[i*2]? =some (.string (l.getD i (⟨#[]⟩,⟨#[]⟩)).1)∧(Qav l)[i*2+1]? =some (.string (l.getD i (⟨#[]⟩,⟨#[]⟩)).2)
 | [],i,h=>absurd h (Nat.not_lt_zero _)
 | u::l,0,h=>⟨rfl,rfl⟩
 | u::l,i+1,h=>by
  have:=Qcd l i (by simpa using h);simp only[Qav,show(i+1)*2=i*2+1+1 by omega,List.getElem?_cons_succ,List.getD_cons_succ];exact this
theorem sl172:SlT Tryz.prog 172 167 (.agg #[.string ⟨#[]⟩,.string ⟨#[]⟩]) 2 32:=⟨by kernel_rfl,⟨Tryz.t167,by kernel_rfl,by kernel_rfl,by kernel_rfl,by kernel_rfl⟩,rfl,by decide⟩
def UidsP(bp base:Nat)(w:World)(r:Option (List (ByteArray×ByteArray)×Toks))(e:Ending)(w':World):Prop :=
 Ext (·=bp) w w'∧match r with
 | none=>∃s T v,e=.returned (.tuple #[s,.iface T v])
 | some (l,us)=>∃s,e=.returned (.tuple #[s,.nilIface])∧PS w' bp base us∧w'.ownsRow w.heap.size 167 2 s l.length (Qav l)∧l.length≤1000000
def UlRel(m:Nat→List (ByteArray×ByteArray)→Toks→Option (List (ByteArray×ByteArray)×Toks))(bp base N B:Nat)(w:World)(Rm:Option (List (ByteArray×ByteArray)×Toks))(s:Value)(wr:World):Prop :=
 ∃g acc vs,m g acc vs=Rm∧vs.length<g∧Wf vs∧vs.length≤N∧acc.length+vs.length≤N∧PS wr bp base vs∧wr.ownsRow B 167 2 s acc.length (Qav acc)∧Ext (·=bp) w wr
theorem uids_w{L:Lex}(hL:LexC L){bp base:Nat}(w:World)(ts:Toks)(hp:PS w bp base ts)(hwf:Wf ts)(hbs:base≤w.heap.size) :
  Calls Tryz.prog 103 #[.pointer (some ⟨bp,0,none⟩)] w (UidsP bp base w (uids L ts)):=by
 have hbb:=hp.hbp;have h15:=hp.h15;have hlen:=hp.len;have HL:=Hi hL;clear hL;have HF:=Hi (show uids L ts=Qcg L (ts.length+1) [] ts from rfl);go_enter Tryz.func103,Tryz.ntmps103
 go_upto_region 2 with(fail)
 go_loopw [4] (fun s wr=>UlRel (Qcg L) bp base ts.length (w.heap.size) w (Qcg L (ts.length+1) [] ts) s wr) (fun _ wr=>left wr bp)
 case atStart=>exact⟨ts.length+1,[],ts,rfl,by omega,hwf,by omega,by simp,hp,⟨rfl,.inl ⟨rfl,rfl⟩⟩,.refl _ _⟩
 case round =>
  clear hp;obtain⟨wo,rfl⟩:∃wo:World,wo=wr:=⟨_,rfl⟩
  obtain⟨g,acc,vs,hg,hgl,hvw,hvN,haN,hp_wo,hO_wo,hX_wo⟩:=hrel;have HG:=Hi hg;clear hg;cases g with
  | zero=>omega
  | succ g =>
  obtain⟨u,q,rfl⟩:∃u q,vs=u::q:=by cases vs with | nil=>exact absurd rfl hp_wo.ne | cons u q=>exact⟨u,q,rfl⟩
  have HLF:=Hi hp_wo.left;have hsz_wo:=hX_wo.size;have hul:0<(u::q).length:=by simp
  go_wp2_with fail
  refine(Qa7 hp_wo).mono ?_;rintro e w1⟨rfl,hF⟩;have hO1:=Qaj (S:=fun _=>False) hO_wo (.below hF) (fun _ h=>h.elim);have hs1:=hF.size;have hX1:=hX_wo.trans (.below hF);have hp1:=hp_wo.below hF;clear hO_wo hX_wo hp_wo;clear hF;cases ht:(u.tx.toList==[93])with
  | true =>
   have HR:=Hi (show uids L ts=some (acc,u::q)by rw[HF.out,←HG.out,Qcg];simp[tx,ht]);go_wp2
   go_ret2
   rw[HR.out];exact⟨hX1,_,rfl,hp1,hO1,by omega⟩
  | false =>
   have hnc:=ht;clear ht
   go_wp2_with fail
   refine(Qb2 HL.out _ _ hp1 hvw (by omega)).mono ?_;rintro e w2⟨hF,hr⟩;have hO2:=Qaj hO1 hF (fun d hd=>by omega);have hs2:=hF.size;have hX2:=hX1.trans hF;clear hO1 hX1;clear hF;cases hm:entity L (u::q)with
   | none =>
    rw[hm]at hr;obtain⟨a9,b9,T2,v2,rfl⟩:=hr;have HR:=Hi (show uids L ts=none by rw[HF.out,←HG.out,Qcg];simp[tx,hnc,hm]);clear hm;go_wp2
    go_ret2
    rw[HR.out];exact⟨hX2.alloc _,_,_,_,rfl⟩
   | some p =>
    obtain⟨⟨t9,i9⟩,us⟩:=p;rw[hm]at hr;obtain⟨rfl,hp9⟩:=hr;have hsh:=Qb8 _ _ _ hvw hm;have hwu:=hsh.1.wf hvw;have hl2:=hsh.2;have HM:=Hi hm;clear hm hsh
    go_upto_region 4 with(fail)
    obtain⟨w3,hw⟩:∃w3,w2.alloc (.cells #[.string t9,.string i9] 167)=w3:=⟨_,rfl⟩
    rw[hw];have hF:Below w2.heap.size w2 w3:=by rw[←hw];exact Qab _ _
    have hB3:w3.heap[w2.heap.size]? =some (.cells #[.string t9,.string i9] 167 (0,0)):=by rw[←hw];exact heap_alloc_new _ _
    have hs3:w2.heap.size+1≤w3.heap.size:=by rw[←hw];simp
    clear hw;have hO3:=Qaj (S:=fun _=>False) hO2 (.below hF) (fun _ h=>h.elim);have hX3:=hX2.trans (.below hF);have hp3:=hp9.below hF;clear hO2 hX2 hp9;clear hF;obtain⟨c_hB_0,c_hB_1⟩:=Cl2 hB3 rfl rfl;have n0:∀j u,[Value.string t9,Value.string i9][j]? =some u→(w3.alloc (.cells #[.string t9,.string i9] 167)).cell? ⟨w3.heap.size,j,none⟩=some u:=by
     intro j u hj;exact Qaa (heap_alloc_new _ _) (by simpa using hj)
    have hOa:=Qaj (S:=fun _=>False) hO3 (.below (Qab _ (.cells #[.string t9,.string i9] 167))) (fun _ h=>h.elim);have hpa:=hp3.below (Qab _ (.cells #[.string t9,.string i9] 167));have hXa:=hX3.alloc (.cells #[.string t9,.string i9] 167);clear hO3 hB3 hp3 hX3
    go_wp2_with(at_builtin;refine appG sl172 rfl _ _ rfl (w.heap.size) _ _ _ rfl hOa _ [.string t9,.string i9] rfl rfl n0 (fun v hv=>by simp at hv;rcases hv with rfl | rfl<;>rfl) (by unfold maxLen;omega) (by omega) (by simp;omega) ?_)
    intro v9 w9 hO9 hg9 _;have hs9:w3.heap.size≤w9.heap.size:=by have:=hg9.size;simp at this;omega
    rw[←Qbm]at hO9;have hp_w9:=hpa.grow hOa hg9 (by omega);have hX9:=hXa.grow hOa hg9 (by omega);clear hOa hpa hXa n0 hg9 c_hB_0 c_hB_1;obtain⟨u2,q2,rfl⟩:∃u q,us=u::q:=by cases us with | nil=>exact absurd rfl hp_w9.ne | cons u q=>exact⟨u,q,rfl⟩
    go_wp2_with fail
    refine(Qa7 hp_w9).mono ?_;rintro e w10⟨rfl,hF⟩;have hO10:=Qaj (S:=fun _=>False) hO9 (.below hF) (fun _ h=>h.elim);have hs10:=hF.size;have hX10:=hX9.trans (.below hF);have hp10:=hp_w9.below hF;clear hO9 hX9 hp_w9;clear hF;cases ht:(u2.tx.toList==[44])with
    | true =>
     have hau:(adv (u2::q2)).length<(u2::q2).length:=Qax hwu (s:=[44]) ht (by decide)
     go_wp2_with fail
     refine(Qaz hp10).mono ?_;rintro e w11⟨rfl,hp11,hF⟩;have hO11:=Qaj hO10 hF (fun d hd=>by omega);have hs11:=hF.size;have hX11:=hX10.trans hF;clear hO10 hX10 hp10;clear hF;have HG2:=Hi (show Qcg L g (acc++[(t9,i9)]) (adv (u2::q2))=Qcg L (ts.length+1) [] ts by rw[←HG.out,Qcg];simp[tx,hnc,HM.out,ht]);go_wp2;go_roundw
     case rel=>exact⟨g,acc++[(t9,i9)],_,HG2.out,by omega,hwu.adv,by omega,by rw[List.length_append];show acc.length+1+_≤_;omega,hp11,by simpa using hO11,hX11⟩
     case measure =>
      rw[hp11.left,HLF.out];omega
    | false =>
     have hnk:=ht;clear ht;cases ht:(u2.tx.toList==[93])with
     | true =>
      have HG2:=Hi (show Qcg L g (acc++[(t9,i9)]) (u2::q2)=Qcg L (ts.length+1) [] ts by obtain⟨g',rfl⟩:∃g',g=g'+1:=⟨g-1,by omega⟩;rw[←HG.out];simp[Qcg,tx,hnc,HM.out,hnk,ht]);go_wp2;go_roundw
      case rel=>exact⟨g,acc++[(t9,i9)],_,HG2.out,by omega,hwu,by omega,by rw[List.length_append];show acc.length+1+_≤_;omega,hp10,by simpa using hO10,hX10⟩
      case measure =>
       rw[hp10.left,HLF.out];omega
     | false =>
      have HR:=Hi (show uids L ts=none by rw[HF.out,←HG.out,Qcg];simp[tx,hnc,HM.out,hnk,ht])
      go_wp2_with fail
      refine(Qa7 hp10).mono ?_;rintro e w11⟨rfl,hF⟩;have hO11:=Qaj (S:=fun _=>False) hO10 (.below hF) (fun _ h=>h.elim);have hs11:=hF.size;have hX11:=hX10.trans (.below hF);have hp11:=hp10.below hF;clear hO10 hX10 hp10;clear hF
      go_wp2_with fail
      refine(Qay (hp11.below (Qab _ _)) _ _).mono ?_;rintro e w12⟨T9,v9,rfl,hF0⟩;have hF:=(Qab w11 (.cells #[.iface 9 (.string u2.tx)] 20)).trans (hF0.mono (by simp));clear hF0;have hO12:=Qaj (S:=fun _=>False) hO11 (.below hF) (fun _ h=>h.elim);have hs12:=hF.size;have hX12:=hX11.trans (.below hF);have hp12:=hp11.below hF;clear hO11 hX11 hp11;clear hF;go_wp2
      go_ret2
      rw[HR.out];exact⟨hX12,_,_,_,rfl⟩
def QaI(L:Lex)(ts:Toks):Option (Scp×Toks):=match exact [97,99,116,105,111,110] ts with
 | none=>none
 | some us=>if(tx us==[61,61])=true then(match entity L (adv us)with
   | none=>none
   | some (u,vs)=>some (.eq u,vs))
  else if(tx us==[105,110])=true then(if(tx (adv us)==[91])=true then(match uids L (adv (adv us))with
    | none=>none
    | some (l,vs)=>some (.inSet l,adv vs))
   else match entity L (adv us)with
    | none=>none
    | some (u,vs)=>some (.within u,vs))
  else some (.all,us)
theorem row_uids{w:World}{B base:Nat}{s:Value}{l:List (ByteArray×ByteArray)}(h:w.ownsRow B 167 2 s l.length (Qav l))(hb:base≤B) :
  ∃p c,s=.slice p l.length c∧Row2At w base 167 p l.length (fun i=>.string (l.getD i (⟨#[]⟩,⟨#[]⟩)).1) (fun i=>.string (l.getD i (⟨#[]⟩,⟨#[]⟩)).2):=by
 rcases Qc6 h with⟨h1,h2⟩ | ⟨g,cap,c,h1,hge,hg,_,_,hcc⟩
 ·exact⟨none,0,by rw[h2,h1],.inl h1⟩
 ·refine⟨_,_,h1,.inr ⟨g,0,c,_,rfl,by omega,hg,fun j hj=>?_⟩⟩
  have:=Qcd l j hj;rw[Nat.zero_add,hcc _ (by omega),hcc _ (by omega)];exact this
theorem QbT{w:World}{B:Nat}{e:TypeId}{s:Value}{n:Nat}{xs:List Value}(h:w.ownsRow B e 2 s n xs):∃p c,s=.slice p n c:=by
 rcases Qc6 h with⟨h1,h2⟩ | ⟨g,cap,c,h1,_⟩
 ·exact⟨none,0,by rw[h2,h1]⟩
 ·exact⟨_,_,h1⟩
theorem action_w{L:Lex}(hL:LexC L){bp base pb:Nat}{e an pr ac re cs fn off ln col:Value}(w:World)(ts:Toks)(hp:PS w bp base ts)(hwf:Wf ts)(hbs:base≤w.heap.size)(hpb:base≤pb)(hL0:Qa8 w pb e an pr ac re cs fn off ln col) :
  Calls Tryz.prog 72 #[.pointer (some ⟨bp,0,none⟩),.pointer (some ⟨pb,0,none⟩)] w (ScP bp base pb w (fun w' v=>Qa8 w' pb e an pr v re cs fn off ln col) ac (QaI L ts)):=by
 have hbb:=hp.hbp;have h15:=hp.h15;have hlen:=hp.len;have HL:=Hi hL;clear hL;unfold Qa8 at hL0;have hL_w:=hL0;clear hL0;have ltP:=Qad hL_w;obtain⟨u,q,rfl⟩:∃u q,ts=u::q:=by cases ts with | nil=>exact absurd rfl hp.ne | cons u q=>exact⟨u,q,rfl⟩
 have hwa:=hwf.adv;go_enter Tryz.func72,Tryz.ntmps72;cases ht:(u.tx.toList==[97,99,116,105,111,110])with
 | false =>
  go_wp2_with fail
  refine(Qa9 hp ht).mono ?_;rintro e w1⟨T9,v9,rfl,hp1,hF⟩;have hL1:=hF.heap (by omega) hL_w;have hs1:=hF.size;have hX1:Ext (·=bp) w w1:=hF;clear hL_w hp;clear hF;have HR:=Hi (show QaI L (u::q)=none by unfold QaI;simp only[exact,tx,Bool.false_eq_true,if_false,if_true,ht]);go_wp2;go_ret;rw[HR.out];exact Qbb rfl hX1
 | true =>
  go_wp2_with fail
  refine(Qa0 hp ht).mono ?_;rintro e w1⟨rfl,hp1,hF⟩;have hL1:=hF.heap (by omega) hL_w;have hs1:=hF.size;have hX1:Ext (·=bp) w w1:=hF;clear hL_w hp;clear hF;obtain⟨u2,q2,ha2⟩:∃a b,adv (u::q)=a::b:=by
   cases h:adv (u::q)with
   | nil=>rw[h]at hwa;exact absurd rfl hwa.ne
   | cons a b=>exact⟨a,b,rfl⟩
  rw[ha2]at hwa hp1;have HA2:=Hi ha2;clear ha2;have hwb:=hwa.adv
  go_wp2_with fail
  refine(Qa7 hp1).mono ?_;rintro e w2⟨rfl,hF⟩;have hL2:=Bk hF hL1;have hs2:=hF.size;have hX2:=hX1.trans (.below hF);have hp2:=hp1.below hF;clear hL1 hX1 hp1;clear hF;cases hu:(u2.tx.toList==[61,61])with
  | true =>
   go_wp2_with fail
   refine(Qaz hp2).mono ?_;rintro e w3⟨rfl,hp3,hF⟩;have hL3:=hF.heap (by omega) hL2;have hs3:=hF.size;have hX3:=hX2.trans hF;clear hL2 hX2 hp2;clear hF
   go_wp2_with fail
   refine(Qb2 HL.out _ (adv (u2::q2)) hp3 hwb (by omega)).mono ?_;rintro e w4⟨hF,hr⟩;have hL4:=hF.heap (by omega) hL3;have hs4:=hF.size;have hX4:=hX3.trans hF;clear hL3 hX3;clear hF;cases hm:entity L (adv (u2::q2))with
   | none =>
    rw[hm]at hr;obtain⟨a9,b9,T9,v9,rfl⟩:=hr;have HR:=Hi (show QaI L (u::q)=none by unfold QaI;simp only[exact,tx,Bool.false_eq_true,if_false,if_true,ht,HA2.out,hu,hm]);go_wp2;go_ret;rw[HR.out];exact Qbb rfl (hX4.alloc _)
   | some p9 =>
    obtain⟨⟨t9,i9⟩,us⟩:=p9;rw[hm]at hr;obtain⟨rfl,hp9⟩:=hr;have hbx:=Qab w4 (.cells #[.string t9,.string i9] 167)
    go_wp2_with fail
    refine(set102_c t9 i9 (h:=(Qaf hL4 (.cells #[.string t9,.string i9] 167)))).mono ?_;rintro r w5⟨rfl,hPN,hXN⟩;have HR:=Hi (show QaI L (u::q)=some (.eq (t9,i9),us)by unfold QaI;simp only[exact,tx,Bool.false_eq_true,if_false,if_true,ht,HA2.out,hu,hm]);have HP:=Hi hPN;clear hPN hL4 hm;go_wp2;go_ret;rw[HR.out];exact Qbf rfl (hX4.trans (.below hbx)) hXN (hp9.below hbx) hpb HP.out rfl
  | false =>
   have h_q:=hu;clear hu;cases hu:(u2.tx.toList==[105,110])with
   | false =>
    have HR:=Hi (show QaI L (u::q)=some (.all,u2::q2)by unfold QaI;simp only[exact,tx,Bool.false_eq_true,if_false,if_true,ht,HA2.out,h_q,hu]);have HP:=Hi hL2;clear hL2;go_wp2;go_ret;rw[HR.out];exact Qbf rfl hX2 (.refl _ _) hp2 hpb HP.out rfl
   | true =>
    go_wp2_with fail
    refine(Qaz hp2).mono ?_;rintro e w3⟨rfl,hp3,hF⟩;have hL3:=hF.heap (by omega) hL2;have hs3:=hF.size;have hX3:=hX2.trans hF;clear hL2 hX2 hp2;clear hF;obtain⟨u3,q3,ha3⟩:∃a b,adv (u2::q2)=a::b:=by
     cases h:adv (u2::q2)with
     | nil=>rw[h]at hwb;exact absurd rfl hwb.ne
     | cons a b=>exact⟨a,b,rfl⟩
    rw[ha3]at hwb hp3;have HA3:=Hi ha3;clear ha3;have hwc:=hwb.adv
    go_wp2_with fail
    refine(Qa7 hp3).mono ?_;rintro e w4⟨rfl,hF⟩;have hL4:=Bk hF hL3;have hs4:=hF.size;have hX4:=hX3.trans (.below hF);have hp4:=hp3.below hF;clear hL3 hX3 hp3;clear hF;cases hi:(u3.tx.toList==[91])with
    | false =>
     go_wp2_with fail
     refine(Qb2 HL.out _ (u3::q3) hp4 hwb (by omega)).mono ?_;rintro e w5⟨hF,hr⟩;have hL5:=hF.heap (by omega) hL4;have hs5:=hF.size;have hX5:=hX4.trans hF;clear hL4 hX4;clear hF;cases hm:entity L (u3::q3)with
     | none =>
      rw[hm]at hr;obtain⟨a9,b9,T9,v9,rfl⟩:=hr;have HR:=Hi (show QaI L (u::q)=none by unfold QaI;simp only[exact,tx,Bool.false_eq_true,if_false,if_true,ht,HA2.out,h_q,hu,HA3.out,hi,hm]);go_wp2;go_ret;rw[HR.out];exact Qbb rfl (hX5.alloc _)
     | some p9 =>
      obtain⟨⟨t9,i9⟩,us⟩:=p9;rw[hm]at hr;obtain⟨rfl,hp9⟩:=hr;have hbx:=Qab w5 (.cells #[.string t9,.string i9] 167)
      go_wp2_with fail
      refine(set105_c t9 i9 (h:=(Qaf hL5 (.cells #[.string t9,.string i9] 167)))).mono ?_;rintro r w6⟨rfl,hPN,hXN⟩;have HR:=Hi (show QaI L (u::q)=some (.within (t9,i9),us)by unfold QaI;simp only[exact,tx,Bool.false_eq_true,if_false,if_true,ht,HA2.out,h_q,hu,HA3.out,hi,hm]);have HP:=Hi hPN;clear hPN hL5 hm;go_wp2;go_ret;rw[HR.out];exact Qbf rfl (hX5.trans (.below hbx)) hXN (hp9.below hbx) hpb HP.out rfl
    | true =>
     go_wp2_with fail
     refine(Qaz hp4).mono ?_;rintro e w5⟨rfl,hp5,hF⟩;have hL5:=hF.heap (by omega) hL4;have hs5:=hF.size;have hX5:=hX4.trans hF;clear hL4 hX4 hp4;clear hF
     go_wp2_with fail
     refine(uids_w HL.out _ _ hp5 hwc (by omega)).mono ?_;rintro e w6⟨hF,hr⟩;have hL6:=hF.heap (by omega) hL5;have hs6:=hF.size;have hX6:=hX5.trans hF;clear hL5 hX5;clear hF;cases hm:uids L (adv (u3::q3))with
     | none =>
      rw[hm]at hr;obtain⟨s9,T9,v9,rfl⟩:=hr;have HR:=Hi (show QaI L (u::q)=none by unfold QaI;simp only[exact,tx,Bool.false_eq_true,if_false,if_true,ht,HA2.out,h_q,hu,HA3.out,hi,hm]);go_wp2;go_ret;rw[HR.out];exact Qbb rfl hX6
     | some p9 =>
      obtain⟨l9,us⟩:=p9;rw[hm]at hr;obtain⟨s9,rfl,hp9,hO,hll⟩:=hr;have HR:=Hi (show QaI L (u::q)=some (.inSet l9,adv us)by unfold QaI;simp only[exact,tx,Bool.false_eq_true,if_false,if_true,ht,HA2.out,h_q,hu,HA3.out,hi,hm]);clear hm;obtain⟨p9,c9,rfl⟩:=QbT hO;obtain⟨u4,q4,rfl⟩:∃u q,us=u::q:=by cases us with | nil=>exact absurd rfl hp9.ne | cons u q=>exact⟨u,q,rfl⟩
      go_wp2_with fail
      refine(set104_c p9 l9.length c9 (h:=hL6)).mono ?_;rintro r w7⟨rfl,hPN,hXN⟩;have hO2:=Qcc hO hXN (fun d hd c fr h=>by subst hd;rw[hL6]at h;cases h);have hpN:=hp9.ext hXN (fun d k=>by subst k;exact hpb);have hsN:=hXN.size;clear hO hL6;unfold Qa8 at hPN;have HP0:=Hi hPN;clear hPN
      go_wp2_with fail
      refine(Qaz hpN).mono ?_;rintro r w8⟨rfl,hpM,hXM⟩;have hO3:=Qaj hO2 hXM (fun d hd=>by subst hd;omega);obtain⟨p8,c8,he8,hrow⟩:=row_uids hO3 (base:=base) (by omega);cases he8;have HP:=Hi (hXM.heap (by omega) HP0.out);go_wp2;go_ret;rw[HR.out];exact⟨((hX6.mono (fun d h=>.inl h)).trans (hXN.mono (fun d h=>.inr h))).trans (hXM.mono (fun d h=>.inl h)),_,rfl,hpM,HP.out,_,_,rfl,hrow⟩
theorem sl98:SlT Tryz.prog 98 138 (.agg #[.bool false,.nilIface]) 2 24:=⟨by kernel_rfl,⟨Tryz.t138,by kernel_rfl,by kernel_rfl,by kernel_rfl,by kernel_rfl⟩,rfl,by decide⟩
theorem Qfy{P:Program}{ops:Array Oper}{o:Oper}{a:Act}{w:World}{K:Act→World→Prop}{Q:Exit→Act→World→Prop}{E:Prop}{T Te:TypeId}{z:Value}{sz by':Nat}(hT:SlT P T Te z sz by')
  (hg:o.guard=none)(s xo:Operand)(ho:o.op=.call {callee:=.builtin .append,args:=#[s,xo],argTypes:=#[T,T]})(base:Nat)(v:Value)(n:Nat)(xs:List Value)(hs:a.eval s=v)(hown:w.ownsRow base Te sz v n xs)
  (blk:Nat)(news:List Value)(hl:news.length=1*sz)(hx:a.eval xo=.slice (some ⟨blk,0,none⟩) 1 1)(hc:∀j u,news[j]? =some u→w.cell? ⟨blk,j,none⟩=some u)(h1:∀v∈news,v.oneCell'=true)(hm:n+1≤maxLen)(hn:(n+1)*by'≤140737488355328)(hbase:base≤w.heap.size)
  (hK:∀v' w',w'.ownsRow base Te sz v' (n+1) (xs++news)→w.grownBy w' v.ownBlock→K (a.put o.dst v') w') :
  if Region.wanted o (yielded ops a.tmps)=true then Oper.wp P o a w K Q else E:=by
 obtain⟨i0,hi,hz0,hz1,hz2⟩:=hT.i;have hw:Region.wanted o (yielded ops a.tmps)=true:=by simp[Region.wanted,hg]
 rw[if_pos hw];obtain⟨v',w',hrun,r1,r2,_⟩:=run_append_own (P:=P) w base T o.type Te i0 z sz by' hT.hu hi hz0 hz1 hz2 hT.zs hT.pos v n xs hown ⟨blk,0,none⟩ 1 1 news hl (fun j u hj=>by
  have:=hc j u hj;by_cases h0:j=0
  ·subst h0;simpa [Addr.add]using this
  ·simpa [Addr.add,h0]using this) h1 hm hn hbase
 unfold Oper.wp;simp[execOp,ho,resolve,invoke,builtin,hs,hx,hrun,Result.andThen];exact hK v' w' r1 r2
theorem QgX{w:World}{pb B n cap:Nat}{p:Option Addr}{cells:List Value}{e an pr ac re fn off ln col:Value}{T:TypeId}{v:Value}(h:Qa8 w pb e an pr ac re (.slice p n cap) fn off ln col)(ho:w.ownsRow B 138 2 (.slice p n cap) n cells)(hn:n≤1000000)(hB:B≤w.heap.size) :
  Calls Tryz.prog 111 #[.pointer (some ⟨pb,0,none⟩),.agg #[.iface T v]] w fun r w'=>r=.returned (.pointer (some ⟨pb,0,none⟩))∧∃p' cap',Qa8 w' pb e an pr ac re (.slice p' (n+1) cap') fn off ln col∧w'.ownsRow B 138 2 (.slice p' (n+1) cap') (n+1) (cells++[.bool true,.iface T v])∧Ext (fun d=>d=pb∨(Value.slice p n cap).ownBlock=some d) w w':=by
 unfold Qa8 at h;have hl:=Qad h;go_enter Tryz.func111,Tryz.ntmps111
 go_upto_region 1 with(fail)
 obtain⟨w1,hw⟩:∃w1,w.alloc (.cells #[.iface T v] 299)=w1:=⟨_,rfl⟩
 rw[hw];have hb:Below w.heap.size w w1:=by rw[←hw];exact Qab _ _
 have hx:w1.heap[w.heap.size]? =some (.cells #[.iface T v] 299 (0,0)):=by rw[←hw];exact heap_alloc_new _ _
 have h1:=(hb.block pb hl).trans h;have ho1:=Qaj (S:=fun _=>False) ho (.below hb) (fun _ k=>k.elim);have hs1:=hb.size;have c5:w1.cell? ⟨pb,5,none⟩=some (.slice p n cap):=Qaa h1 rfl;have x0:w1.cell? ⟨w.heap.size,0,none⟩=some (.iface T v):=Qaa hx rfl;have hXA:Ext (fun _=>False) w1 (w1.alloc (.cells #[.bool true,.iface T v] 138)).drew:=((Ext.refl _ _).alloc _).drew;have ho2:=Qaj ho1 hXA (fun _ k=>k.elim)
 have h2:=hXA.heap (fun k=>k) h1;have hs2:w1.heap.size≤(w1.alloc (.cells #[.bool true,.iface T v] 138)).drew.heap.size:=hXA.size;have n0:∀j u,[Value.bool true,Value.iface T v][j]? =some u→(w1.alloc (.cells #[.bool true,.iface T v] 138)).drew.cell? ⟨w1.heap.size,j,none⟩=some u:=by
  intro j u hj;have hnew:(w1.alloc (.cells #[.bool true,.iface T v] 138)).drew.heap[w1.heap.size]? =some (.cells #[.bool true,.iface T v] 138 (0,0)):=heap_alloc_new w1 (.cells #[.bool true,.iface T v] 138);exact Qaa hnew (by simpa using hj)
 have c5':(w1.alloc (.cells #[.bool true,.iface T v] 138)).drew.cell? ⟨pb,5,none⟩=some (.slice p n cap):=Qaa h2 rfl;have HH:=Hi (And.intro ho2 (And.intro h2 (And.intro n0 (And.intro hs2 ((Ext.below (S:=fun _=>False) hb).trans hXA)))));clear hw h h1 hx hb ho ho1 ho2 h2 n0 hXA hs2
 go_region_law (refine Qfy sl98 rfl (.tmp 9) (.tmp 13) rfl B (.slice p n cap) n cells rfl HH.out.1 w1.heap.size [.bool true,.iface T v] rfl rfl HH.out.2.2.1 (fun v hv=>by simp at hv;rcases hv with rfl | rfl<;>rfl) (by unfold maxLen;omega) (by omega) (by have:=HH.out.2.2.2.1;omega) ?_;intro v9 w9 hO9 hg9;obtain⟨p9,k9,rfl⟩:=QbT hO9;have h9:=QaR HH.out.2.1 HH.out.1 hg9 (by decide);have c9:=Qaa (o:=5) h9 rfl;have f9:=Qae h9 5)
 all_goals go_wp2
 all_goals go_ret
 all_goals exact⟨rfl,p9,k9,Qac (o:=5) h9 _,Qdo (o:=5) hO9 h9 (by decide) _,((HH.out.2.2.2.2.mono (fun d k=>k.elim)).trans' (QaF hg9) (fun d k=>.inl (.inr k))).set (p:=⟨pb,5,none⟩) (.inl (.inl rfl)) _⟩
theorem QgY{w:World}{pb B n cap:Nat}{p:Option Addr}{cells:List Value}{e an pr ac re fn off ln col:Value}{T:TypeId}{v:Value}(h:Qa8 w pb e an pr ac re (.slice p n cap) fn off ln col)(ho:w.ownsRow B 138 2 (.slice p n cap) n cells)(hn:n≤1000000)(hB:B≤w.heap.size) :
  Calls Tryz.prog 112 #[.pointer (some ⟨pb,0,none⟩),.agg #[.iface T v]] w fun r w'=>r=.returned (.pointer (some ⟨pb,0,none⟩))∧∃p' cap',Qa8 w' pb e an pr ac re (.slice p' (n+1) cap') fn off ln col∧w'.ownsRow B 138 2 (.slice p' (n+1) cap') (n+1) (cells++[.bool false,.iface T v])∧Ext (fun d=>d=pb∨(Value.slice p n cap).ownBlock=some d) w w':=by
 unfold Qa8 at h;have hl:=Qad h;go_enter Tryz.func112,Tryz.ntmps112
 go_upto_region 1 with(fail)
 obtain⟨w1,hw⟩:∃w1,w.alloc (.cells #[.iface T v] 299)=w1:=⟨_,rfl⟩
 rw[hw];have hb:Below w.heap.size w w1:=by rw[←hw];exact Qab _ _
 have hx:w1.heap[w.heap.size]? =some (.cells #[.iface T v] 299 (0,0)):=by rw[←hw];exact heap_alloc_new _ _
 have h1:=(hb.block pb hl).trans h;have ho1:=Qaj (S:=fun _=>False) ho (.below hb) (fun _ k=>k.elim);have hs1:=hb.size;have c5:w1.cell? ⟨pb,5,none⟩=some (.slice p n cap):=Qaa h1 rfl;have x0:w1.cell? ⟨w.heap.size,0,none⟩=some (.iface T v):=Qaa hx rfl;have hXA:Ext (fun _=>False) w1 (w1.alloc (.cells #[.bool false,.iface T v] 138)).drew:=((Ext.refl _ _).alloc _).drew;have ho2:=Qaj ho1 hXA (fun _ k=>k.elim)
 have h2:=hXA.heap (fun k=>k) h1;have hs2:w1.heap.size≤(w1.alloc (.cells #[.bool false,.iface T v] 138)).drew.heap.size:=hXA.size;have n0:∀j u,[Value.bool false,Value.iface T v][j]? =some u→(w1.alloc (.cells #[.bool false,.iface T v] 138)).drew.cell? ⟨w1.heap.size,j,none⟩=some u:=by
  intro j u hj;have hnew:(w1.alloc (.cells #[.bool false,.iface T v] 138)).drew.heap[w1.heap.size]? =some (.cells #[.bool false,.iface T v] 138 (0,0)):=heap_alloc_new w1 (.cells #[.bool false,.iface T v] 138);exact Qaa hnew (by simpa using hj)
 have c5':(w1.alloc (.cells #[.bool false,.iface T v] 138)).drew.cell? ⟨pb,5,none⟩=some (.slice p n cap):=Qaa h2 rfl;have HH:=Hi (And.intro ho2 (And.intro h2 (And.intro n0 (And.intro hs2 ((Ext.below (S:=fun _=>False) hb).trans hXA)))));clear hw h h1 hx hb ho ho1 ho2 h2 n0 hXA hs2
 go_region_law (refine Qfy sl98 rfl (.tmp 9) (.tmp 13) rfl B (.slice p n cap) n cells rfl HH.out.1 w1.heap.size [.bool false,.iface T v] rfl rfl HH.out.2.2.1 (fun v hv=>by simp at hv;rcases hv with rfl | rfl<;>rfl) (by unfold maxLen;omega) (by omega) (by have:=HH.out.2.2.2.1;omega) ?_;intro v9 w9 hO9 hg9;obtain⟨p9,k9,rfl⟩:=QbT hO9;have h9:=QaR HH.out.2.1 HH.out.1 hg9 (by decide);have c9:=Qaa (o:=5) h9 rfl;have f9:=Qae h9 5)
 all_goals go_wp2
 all_goals go_ret
 all_goals exact⟨rfl,p9,k9,Qac (o:=5) h9 _,Qdo (o:=5) hO9 h9 (by decide) _,((HH.out.2.2.2.2.mono (fun d k=>k.elim)).trans' (QaF hg9) (fun d k=>.inl (.inr k))).set (p:=⟨pb,5,none⟩) (.inl (.inl rfl)) _⟩
def CondsIs(w:World)(lo:Nat)(cells:List Value)(l:List (Bool×Ex)):Prop :=
 cells.length=l.length*2∧∀(i:Nat)(a:Bool×Ex),l[i]? =some a→cells[i*2]? =some (.bool a.1)∧∃(T:TypeId)(v:Value),cells[i*2+1]? =some (Value.iface T v)∧NodeIs w lo (.iface T v) a.2
theorem CondsIs.nil{w:World}{lo:Nat}:CondsIs w lo [] []:=⟨rfl,fun i a h=>by simp at h⟩
theorem CondsIs.extG{w w':World}{lo:Nat}{S:Nat→Prop}{vals:List Value}{l:List (Bool×Ex)}(h:CondsIs w lo vals l)(he:Ext S w w')(hs:∀d,S d→∀T c fr,w.heap[d]? =some (.cells c T fr)→T≠136∧T≠221∧T≠316):CondsIs w' lo vals l :=
 ⟨h.1,fun i a hi=>by obtain⟨h0,T,v,h1,h2⟩:=h.2 i a hi;exact⟨h0,T,v,h1,h2.extG he hs⟩⟩
theorem CondsIs.ext{w w':World}{lo:Nat}{S:Nat→Prop}{vals:List Value}{l:List (Bool×Ex)}(h:CondsIs w lo vals l)(he:Ext S w w')(hs:∀d,S d→Soft w lo d):CondsIs w' lo vals l :=
 ⟨h.1,fun i a hi=>by obtain⟨h0,T,v,h1,h2⟩:=h.2 i a hi;exact⟨h0,T,v,h1,h2.ext he hs⟩⟩
theorem CondsIs.keep{w w':World}{lo:Nat}{S:Nat→Prop}{vals:List Value}{l:List (Bool×Ex)}(h:CondsIs w lo vals l)(he:Ext S w w')(hs:∀d,S d→d<lo):CondsIs w' lo vals l:=h.ext he (fun d hd=>.inl (hs d hd))
theorem CondsIs.later{w w':World}{lo:Nat}{vals:List Value}{l:List (Bool×Ex)}(h:CondsIs w lo vals l)(hb:Below w.heap.size w w'):CondsIs w' lo vals l:=h.ext (S:=fun _=>False) (.below hb) (fun _ k=>k.elim)
theorem CondsIs.grow{w w':World}{lo:Nat}{vals:List Value}{l:List (Bool×Ex)}{base:Nat}{e:TypeId}{size:Nat}{v:Value}{n:Nat}{xs:List Value}(h:CondsIs w lo vals l)(ho:w.ownsRow base e size v n xs)(hg:w.grownBy w' v.ownBlock)(he:e≠136∧e≠221∧e≠316):CondsIs w' lo vals l :=
 ⟨h.1,fun i a hi=>by obtain⟨h0,T,v,h1,h2⟩:=h.2 i a hi;exact⟨h0,T,v,h1,h2.grow ho hg he⟩⟩
theorem CondsIs.snoc{w:World}{lo:Nat}{vals:List Value}{l:List (Bool×Ex)}{k:Bool}{T:TypeId}{v:Value}{x:Ex}(h:CondsIs w lo vals l)(hx:NodeIs w lo (.iface T v) x):CondsIs w lo (vals++[.bool k,.iface T v]) (l++[(k,x)]):=by
 obtain⟨hlen,h⟩:=h;refine⟨by simp[hlen];omega,fun i a hi=>?_⟩;by_cases hl:i<l.length
 ·rw[List.getElem?_append_left hl]at hi
  obtain⟨h0,T,v,h1,h2⟩:=h i a hi;exact⟨by rw[List.getElem?_append_left (by omega)];exact h0,T,v,by rw[List.getElem?_append_left (by omega)];exact h1,h2⟩
 ·rw[List.getElem?_append_right (by omega)]at hi
  have h0:i=l.length:=by
   rcases Nat.eq_zero_or_pos (i-l.length)with h | h
   ·omega
   ·rw[List.getElem?_eq_none (by simp only[List.length_singleton];omega)]at hi;cases hi
  subst h0;simp at hi;subst hi;refine⟨?_,T,v,?_,hx⟩
  ·rw[List.getElem?_append_right (by omega),show l.length*2-vals.length=0 by omega];rfl
  ·rw[List.getElem?_append_right (by omega),show l.length*2+1-vals.length=1 by omega];rfl
def Qbh(E:Toks→Option (Ex×Toks)):Nat→List (Bool×Ex)→Toks→Option (List (Bool×Ex)×Toks)
 | 0,_,_=>none
 | f+1,acc,ts=>if(tx ts==[119,104,101,110])=true then(match cond E (adv ts)with
   | none=>none
   | some (x,us)=>Qbh E f (acc++[(true,x)]) us)
  else if(tx ts==[117,110,108,101,115,115])=true then(match cond E (adv ts)with
   | none=>none
   | some (x,us)=>Qbh E f (acc++[(false,x)]) us)
  else some (acc,ts)
def conds(E:Toks→Option (Ex×Toks))(ts:Toks):Option (List (Bool×Ex)×Toks):=Qbh E (ts.length+1) [] ts
theorem Qdr{E:Toks→Option (Ex×Toks)}(hE:Sh E){ts us:Toks}{x:Ex}(h:Wf ts)(he:cond E ts=some (x,us)):Sf us ts:=by
 rw[cond]at he;split at he
 ·cases he
 ·rename_i vs hv
  have h1:=QaC h hv;split at he
  ·cases he
  ·rename_i y zs hz
   have h2:=hE _ _ _ (h1.wf h) hz;split at he
   ·cases he
   ·rename_i zs' hz'
    cases he;have h3:=QaC (h2.1.wf (h1.wf h)) hz';exact h3.trans (h2.1.trans h1)
def CdRel(m:Nat→List (Bool×Ex)→Toks→Option (List (Bool×Ex)×Toks))(bp base pb N:Nat)(e an pr ac re fn off ln col:Value)(w:World)(Rm:Option (List (Bool×Ex)×Toks))(wr:World):Prop :=
 ∃g acc cells p cap vs,m g acc vs=Rm∧vs.length<g∧Wf vs∧vs.length≤N∧acc.length+vs.length≤N∧PS wr bp base vs∧Qa8 wr pb e an pr ac re (.slice p acc.length cap) fn off ln col∧wr.ownsRow w.heap.size 138 2 (.slice p acc.length cap) acc.length cells∧CondsIs wr base cells acc∧Ext (fun d=>d=bp∨d=pb) w wr
def CondsP(bp base pb:Nat)(e an pr ac re fn off ln col:Value)(w:World)(r:Option (List (Bool×Ex)×Toks))(t:Ending)(w':World):Prop :=
 Ext (fun d=>d=bp∨d=pb) w w'∧match r with
 | none=>∃T v,t=.returned (.iface T v)
 | some (l,us)=>t=.returned .nilIface∧PS w' bp base us∧∃p cap cells,Qa8 w' pb e an pr ac re (.slice p l.length cap) fn off ln col∧w'.ownsRow w.heap.size 138 2 (.slice p l.length cap) l.length cells∧CondsIs w' base cells l
theorem conds_w{E:Toks→Option (Ex×Toks)}{bp base pb N:Nat}{e an pr ac re fn off ln col:Value}(hE:Sh E)(hC:FnC 149 E bp base N)(w:World)(ts:Toks)(hp:PS w bp base ts)(hwf:Wf ts)(hN:ts.length≤N)(hbs:base≤w.heap.size)(hpb:base≤pb)(hL0:Qa8 w pb e an pr ac re (.slice none 0 0) fn off ln col) :
  Calls Tryz.prog 75 #[.pointer (some ⟨bp,0,none⟩),.pointer (some ⟨pb,0,none⟩)] w (CondsP bp base pb e an pr ac re fn off ln col w (conds E ts)):=by
 have hbb:=hp.hbp;have h15:=hp.h15;have hlen:=hp.len;have ltP:=Qad hL0;have HC:=Hi hC;have HE:=Hi hE;clear hC hE;have HF:=Hi (show conds E ts=Qbh E (ts.length+1) [] ts from rfl);have HL0:=Hi hL0;clear hL0;go_enter Tryz.func75,Tryz.ntmps75
 go_upto_region 1 with(fail)
 go_loopw [6] (fun _ wr=>CdRel (Qbh E) bp base pb ts.length e an pr ac re fn off ln col w (Qbh E (ts.length+1) [] ts) wr) (fun _ wr=>left wr bp)
 case atStart=>exact⟨ts.length+1,[],[],none,0,ts,rfl,by omega,hwf,by omega,by simp,hp,HL0.out,⟨rfl,.inl ⟨rfl,rfl⟩⟩,.nil,.refl _ _⟩
 case round =>
  clear hp;obtain⟨wo,rfl⟩:∃wo:World,wo=wr:=⟨_,rfl⟩
  obtain⟨g,acc,cells,p,cap,vs,hg,hgl,hvw,hvN,haN,hp_wo,hL_wo,hO_wo,hc_wo,hXr⟩:=hrel;have HG:=Hi hg;clear hg;cases g with
  | zero=>omega
  | succ g =>
  obtain⟨u,q,rfl⟩:∃u q,vs=u::q:=by cases vs with | nil=>exact absurd rfl hp_wo.ne | cons u q=>exact⟨u,q,rfl⟩
  have HLF:=Hi hp_wo.left;have hsz_wo:=hXr.size;have hul:0<(u::q).length:=by simp
  have hwa:=hvw.adv;unfold Qa8 at hL_wo
  go_wp2_with fail
  refine(Qa7 hp_wo).mono ?_;rintro e w1⟨rfl,hF⟩;have hc1:=hc_wo.later hF;have hL1:=Bk hF hL_wo;have hO1:=Qaj (S:=fun _=>False) hO_wo (.below hF) (fun _ h=>h.elim);have hs1:=hF.size;have hX1:Ext (·=bp) wo w1:=.below hF;have hp1:=hp_wo.below hF;clear hc_wo hL_wo hO_wo hp_wo;clear hF;cases ht:(u.tx.toList==[119,104,101,110])with
  | true =>
   have hau:(adv (u::q)).length<(u::q).length:=Qax hvw (s:=[119,104,101,110]) ht (by decide)
   go_wp2_with fail
   refine(Qaz hp1).mono ?_;rintro e w2⟨rfl,hp2,hF⟩;have hc2:=hc1.keep hF (fun d hd=>by omega);have hL2:=hF.heap (by omega) hL1;have hO2:=Qaj hO1 hF (fun d hd=>by omega);have hs2:=hF.size;have hX2:=hX1.trans hF;clear hc1 hL1 hO1 hX1 hp1;clear hF
   go_wp2_with fail
   refine(cond_w HE.out HC.out _ _ hp2 hwa (by omega) (by omega)).mono ?_;rintro e w3⟨hF,hr⟩;have hc3:=hc2.keep hF (fun d hd=>by omega);have hL3:=hF.heap (by omega) hL2;have hO3:=Qaj hO2 hF (fun d hd=>by omega);have hs3:=hF.size;have hX3:=hX2.trans hF;clear hc2 hL2 hO2 hX2;clear hF;cases hm:cond E (adv (u::q))with
   | none =>
    rw[hm]at hr;obtain⟨n9,T9,v9,hn9,rfl⟩:=hr;have HR:=Hi (show conds E ts=none by rw[HF.out,←HG.out,Qbh];simp[tx,ht,hm]);clear hm;rcases hn9 with rfl | ⟨T8,v8,rfl⟩
    ·go_wp2
     go_ret;rw[HR.out];exact⟨hXr.trans ((hX3.alloc _).mono (fun d k=>.inl k)),_,_,rfl⟩
    ·go_wp2
     go_ret;rw[HR.out];exact⟨hXr.trans ((hX3.alloc _).mono (fun d k=>.inl k)),_,_,rfl⟩
   | some p2 =>
    obtain⟨x,us⟩:=p2;rw[hm]at hr;obtain⟨T9,v9,rfl,hp9,hx3⟩:=hr;have hsf:=Qdr HE.out hwa hm;have hwu:=hsf.wf hwa;have hl2:=hsf.len;have HG2:=Hi (show Qbh E g (acc++[(true,x)]) us=Qbh E (ts.length+1) [] ts by rw[←HG.out,Qbh];simp[tx,ht,hm]);clear hm hsf
    go_upto_region 6 with(fail)
    obtain⟨w4,hw⟩:∃w4,w3.alloc (.cells #[.iface T9 v9] 299)=w4:=⟨_,rfl⟩
    rw[hw];have hF:Below w3.heap.size w3 w4:=by rw[←hw];exact Qab _ _
    have hB4:w4.heap[w3.heap.size]? =some (.cells #[.iface T9 v9] 299 (0,0)):=by rw[←hw];exact heap_alloc_new _ _
    have hs4:w3.heap.size+1≤w4.heap.size:=by rw[←hw];simp
    clear hw;have hc4:=hc3.later hF;have hx4:=hx3.later hF;have hL4:=Bk hF hL3;have hO4:=Qaj (S:=fun _=>False) hO3 (.below hF) (fun _ h=>h.elim);have hX4:=hX3.trans (.below hF);have hp4:=hp9.below hF;clear hc3 hx3 hL3 hO3 hX3 hp9;clear hF;have c_hB_0:=Qaa (o:=0) hB4 rfl
    go_wp2_with fail
    refine(QgX hL4 hO4 (by omega) (by omega)).mono ?_;rintro r w5⟨rfl,p7,k7,hP7,hO7,hF⟩;have hst:∀d,(d=pb∨(Value.slice p acc.length cap).ownBlock=some d)→∀(T:TypeId)(c:Array Value)(fr:Nat×Nat),w4.heap[d]? =some (.cells c T fr)→T≠136∧T≠221∧T≠316:=by
     intro d hd T c fr h;rcases hd with rfl | hd
     ·rw[hL4]at h;cases h;decide
     ·obtain⟨_,c',hc'⟩:=Qa5 hO4 hd
      rw[hc']at h;cases h;decide
    have hlo:∀d,(d=pb∨(Value.slice p acc.length cap).ownBlock=some d)→d=pb∨w.heap.size≤d:=fun d hd=>hd.imp id (fun h=>(Qa5 hO4 h).1)
    have hc7:=(hc4.extG hF hst).snoc (k:=true) (hx4.extG hF hst);have hp7:=hp4.ext hF (fun d hd=>by rcases hlo d hd with rfl | h<;>omega);have hX7:=(hXr.trans (hX4.mono (fun d k=>.inl k))).trans' hF (fun d hd=>(hlo d hd).imp .inr id);have HP7:=Hi hP7;clear hP7 hst hlo hF;clear hL4 hO4 hc4 hx4 hB4 hp4 hX4 c_hB_0;go_wp2;go_roundw
    case rel=>exact⟨g,acc++[(true,x)],_,p7,k7,us,HG2.out,by omega,hwu,by omega,by rw[List.length_append];show acc.length+1+_≤_;omega,hp7,by simpa using HP7.out,by simpa using hO7,hc7,hX7⟩
    case measure =>
     rw[hp7.left,HLF.out];omega
  | false =>
   have h_w:=ht;clear ht;cases ht:(u.tx.toList==[117,110,108,101,115,115])with
   | true =>
    have hau:(adv (u::q)).length<(u::q).length:=Qax hvw (s:=[117,110,108,101,115,115]) ht (by decide)
    go_wp2_with fail
    refine(Qaz hp1).mono ?_;rintro e w2⟨rfl,hp2,hF⟩;have hc2:=hc1.keep hF (fun d hd=>by omega);have hL2:=hF.heap (by omega) hL1;have hO2:=Qaj hO1 hF (fun d hd=>by omega);have hs2:=hF.size;have hX2:=hX1.trans hF;clear hc1 hL1 hO1 hX1 hp1;clear hF
    go_wp2_with fail
    refine(cond_w HE.out HC.out _ _ hp2 hwa (by omega) (by omega)).mono ?_;rintro e w3⟨hF,hr⟩;have hc3:=hc2.keep hF (fun d hd=>by omega);have hL3:=hF.heap (by omega) hL2;have hO3:=Qaj hO2 hF (fun d hd=>by omega);have hs3:=hF.size;have hX3:=hX2.trans hF;clear hc2 hL2 hO2 hX2;clear hF;cases hm:cond E (adv (u::q))with
    | none =>
     rw[hm]at hr;obtain⟨n9,T9,v9,hn9,rfl⟩:=hr;have HR:=Hi (show conds E ts=none by rw[HF.out,←HG.out,Qbh];simp[tx,h_w,ht,hm]);clear hm;rcases hn9 with rfl | ⟨T8,v8,rfl⟩
     ·go_wp2
      go_ret;rw[HR.out];exact⟨hXr.trans ((hX3.alloc _).mono (fun d k=>.inl k)),_,_,rfl⟩
     ·go_wp2
      go_ret;rw[HR.out];exact⟨hXr.trans ((hX3.alloc _).mono (fun d k=>.inl k)),_,_,rfl⟩
    | some p2 =>
     obtain⟨x,us⟩:=p2;rw[hm]at hr;obtain⟨T9,v9,rfl,hp9,hx3⟩:=hr;have hsf:=Qdr HE.out hwa hm;have hwu:=hsf.wf hwa;have hl2:=hsf.len;have HG2:=Hi (show Qbh E g (acc++[(false,x)]) us=Qbh E (ts.length+1) [] ts by rw[←HG.out,Qbh];simp[tx,h_w,ht,hm]);clear hm hsf
     go_upto_region 12 with(fail)
     obtain⟨w4,hw⟩:∃w4,w3.alloc (.cells #[.iface T9 v9] 299)=w4:=⟨_,rfl⟩
     rw[hw];have hF:Below w3.heap.size w3 w4:=by rw[←hw];exact Qab _ _
     have hB4:w4.heap[w3.heap.size]? =some (.cells #[.iface T9 v9] 299 (0,0)):=by rw[←hw];exact heap_alloc_new _ _
     have hs4:w3.heap.size+1≤w4.heap.size:=by rw[←hw];simp
     clear hw;have hc4:=hc3.later hF;have hx4:=hx3.later hF;have hL4:=Bk hF hL3;have hO4:=Qaj (S:=fun _=>False) hO3 (.below hF) (fun _ h=>h.elim);have hX4:=hX3.trans (.below hF);have hp4:=hp9.below hF;clear hc3 hx3 hL3 hO3 hX3 hp9;clear hF;have c_hB_0:=Qaa (o:=0) hB4 rfl
     go_wp2_with fail
     refine(QgY hL4 hO4 (by omega) (by omega)).mono ?_;rintro r w5⟨rfl,p7,k7,hP7,hO7,hF⟩;have hst:∀d,(d=pb∨(Value.slice p acc.length cap).ownBlock=some d)→∀(T:TypeId)(c:Array Value)(fr:Nat×Nat),w4.heap[d]? =some (.cells c T fr)→T≠136∧T≠221∧T≠316:=by
      intro d hd T c fr h;rcases hd with rfl | hd
      ·rw[hL4]at h;cases h;decide
      ·obtain⟨_,c',hc'⟩:=Qa5 hO4 hd
       rw[hc']at h;cases h;decide
     have hlo:∀d,(d=pb∨(Value.slice p acc.length cap).ownBlock=some d)→d=pb∨w.heap.size≤d:=fun d hd=>hd.imp id (fun h=>(Qa5 hO4 h).1)
     have hc7:=(hc4.extG hF hst).snoc (k:=false) (hx4.extG hF hst);have hp7:=hp4.ext hF (fun d hd=>by rcases hlo d hd with rfl | h<;>omega);have hX7:=(hXr.trans (hX4.mono (fun d k=>.inl k))).trans' hF (fun d hd=>(hlo d hd).imp .inr id);have HP7:=Hi hP7;clear hP7 hst hlo hF;clear hL4 hO4 hc4 hx4 hB4 hp4 hX4 c_hB_0;go_wp2;go_roundw
     case rel=>exact⟨g,acc++[(false,x)],_,p7,k7,us,HG2.out,by omega,hwu,by omega,by rw[List.length_append];show acc.length+1+_≤_;omega,hp7,by simpa using HP7.out,by simpa using hO7,hc7,hX7⟩
     case measure =>
      rw[hp7.left,HLF.out];omega
   | false =>
    have HR:=Hi (show conds E ts=some (acc,u::q)by rw[HF.out,←HG.out,Qbh];simp[tx,h_w,ht]);have HP:=Hi hL1;clear hL1;go_wp2;go_ret;rw[HR.out];exact⟨hXr.trans (hX1.mono (fun d k=>.inl k)),rfl,hp1,p,cap,cells,HP.out,hO1,hc1⟩
end Go.Proofs.Pg
