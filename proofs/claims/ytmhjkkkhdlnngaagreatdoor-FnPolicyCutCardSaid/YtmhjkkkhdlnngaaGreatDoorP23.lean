/- FnPolicyCut, part 23. -/
import Derived.Test.YtmhjkkkhdlnngaaGreatDoorP22
import Derived.ScopeJumps
import Derived.WalkMore
set_option linter.all false
set_option maxRecDepth 100000
set_option maxHeartbeats 0
namespace Go.Proofs.Pg
open Go.RowKit Go.Proofs.Tryz
attribute [local go_sem] Oper.semAt_some
variable {t:List UInt8}{r:Rdr}{lo b:Nat}{σ:Sc}{w w':World}
theorem Qe4{c:Int}(h:QbB c=true):c=110∨c=114∨c=116∨c=92∨c=48∨c=39∨c=34∨c=42:=by
 simp[QbB]at h;omega
theorem Qhq{c:Int}(h:¬QbB c=true):(c==110)=false∧(c==114)=false∧(c==116)=false∧(c==92)=false∧(c==48)=false∧(c==39)=false∧(c==34)=false∧(c==42)=false:=by
 simp[QbB]at h;simp;omega
theorem Qfe{c:Int}(h:Qee c=true):c=64∨c=46∨c=44∨c=59∨c=40∨c=41∨c=123∨c=125∨c=91∨c=93∨c=43∨c=45∨c=42:=by
 simp[Qee]at h;omega
theorem Qhr(h:SW t r lo b σ w):Calls prog 164 #[.pointer (some ⟨b,0,none⟩)] w (ChP t r lo b (Qbn t σ) w):=by
 have HR0:=Hi (show Qbn t σ=(if QbB (nxt t σ).1=true then nxt t (nxt t σ).2
 else if(nxt t σ).1=120 then Qbj t 2 2 (nxt t (nxt t σ).2)
 else if(nxt t σ).1=117 then(if(nxt t (nxt t σ).2).1=123 then(if(Qbj t 1 6 (nxt t (nxt t (nxt t σ).2).2)).1=125 then nxt t (Qbj t 1 6 (nxt t (nxt t (nxt t σ).2).2)).2 else err (Qbj t 1 6 (nxt t (nxt t (nxt t σ).2).2)))else err (nxt t (nxt t σ).2))
 else err (nxt t σ))from rfl)
 generalize Qbn t σ=Res at *;go_enter func164,ntmps164
 go_wp2_with fail
 refine(QaX h).mono ?_;rintro e w1⟨rfl,h1,F1⟩;have HS1:=Hi h1;clear h1 h;have HF1:=Hi F1;clear F1;generalize hs1:nxt t σ=s1 at *;clear hs1;obtain⟨c,σ1⟩:=s1;simp only at HS1 HR0;by_cases hc:QbB c=true
 ·have HR:Hid (Res=nxt t σ1):=Hi (by rw[HR0.out,if_pos hc])
  clear HR0;have hcc:=Qe4 hc;clear hc;rcases hcc with rfl | rfl | rfl | rfl | rfl | rfl | rfl | rfl
  all_goals
   go_wp2_with fail
   refine(QaX HS1.out).mono ?_;rintro e w2⟨rfl,h2,F2⟩;have HS2:=Hi h2;clear h2;have HF2:=Hi (HF1.out.trans F2);clear F2
   go_wp2_with fail
   go_ret;rw[HR.out];exact⟨rfl,HS2.out,HF2.out⟩
 ·have hr1:=HR0.out
  rw[if_neg hc]at hr1;clear HR0;obtain⟨q1,q2,q3,q4,q5,q6,q7,q8⟩:=Qhq hc;clear hc;by_cases h120:c=120
  ·have HR:Hid (Res=Qbj t 2 2 (nxt t σ1)):=Hi (by rw[hr1,if_pos h120])
   subst h120;clear hr1
   go_wp2_with fail
   refine(QaX HS1.out).mono ?_;rintro e w2⟨rfl,h2,F2⟩;have HS2:=Hi h2;clear h2;have HF2:=Hi (HF1.out.trans F2);clear F2;generalize hs2:nxt t σ1=s2 at *;clear hs2;obtain⟨c2,σ2⟩:=s2;simp only at HS2 HR
   go_wp2_with fail
   refine(Qe3 c2 2 2 (by decide) (by decide) HS2.out).mono ?_;rintro e w3⟨rfl,h3,F3⟩;have HS3:=Hi h3;clear h3;have HF3:=Hi (HF2.out.trans F3);clear F3
   go_wp2_with fail
   go_ret;rw[HR.out];exact⟨rfl,HS3.out,HF3.out⟩
  ·rw[if_neg h120]at hr1
   have q9:(c==120)=false:=by simpa using h120
   by_cases h117:c=117
   ·rw[if_pos h117]at hr1
    subst h117;have HR1:=Hi hr1;clear hr1
    go_wp2_with fail
    refine(QaX HS1.out).mono ?_;rintro e w2⟨rfl,h2,F2⟩;have HS2:=Hi h2;clear h2;have HF2:=Hi (HF1.out.trans F2);clear F2;generalize hs2:nxt t σ1=s2 at *;clear hs2;obtain⟨c2,σ2⟩:=s2;simp only at HS2 HR1;by_cases h123:c2=123
    ·have hr2:=HR1.out
     rw[if_pos h123]at hr2;have HR2:=Hi hr2;clear hr2 HR1;subst h123
     go_wp2_with fail
     refine(QaX HS2.out).mono ?_;rintro e w3⟨rfl,h3,F3⟩;have HS3:=Hi h3;clear h3;have HF3:=Hi (HF2.out.trans F3);clear F3;generalize hs3:nxt t σ2=s3 at *;clear hs3;obtain⟨c3,σ3⟩:=s3;simp only at HS3 HR2
     go_wp2_with fail
     refine(Qe3 c3 1 6 (by decide) (by decide) HS3.out).mono ?_;rintro e w4⟨rfl,h4,F4⟩;have HS4:=Hi h4;clear h4;have HF4:=Hi (HF3.out.trans F4);clear F4;generalize hs4:Qbj t 1 6 (c3,σ3)=s4 at *;clear hs4;obtain⟨c4,σ4⟩:=s4;simp only at HS4 HR2;by_cases h125:c4=125
     ·have HR:Hid (Res=nxt t σ4):=Hi (by rw[HR2.out,if_pos h125])
      subst h125
      go_wp2_with fail
      refine(QaX HS4.out).mono ?_;rintro e w5⟨rfl,h5,F5⟩;have HS5:=Hi h5;clear h5;have HF5:=Hi (HF4.out.trans F5);clear F5
      go_wp2_with fail
      go_ret;rw[HR.out];exact⟨rfl,HS5.out,HF5.out⟩
     ·have HR:Hid (Res=err (c4,σ4)):=Hi (by rw[HR2.out,if_neg h125])
      have q10:(c4==125)=false:=by simpa using h125
      have q11:(c4 != 125)=true:=by simpa using h125
      go_wp2_with fail
      refine(QcA HS4.out _).mono ?_;rintro e w5⟨rfl,h5,F5⟩;have HS5:=Hi h5;clear h5;have HF5:=Hi (HF4.out.trans F5);clear F5
      go_wp2_with fail
      go_ret;rw[HR.out];exact⟨rfl,HS5.out,HF5.out⟩
    ·have HR:Hid (Res=err (c2,σ2)):=Hi (by rw[HR1.out,if_neg h123])
     have q10:(c2==123)=false:=by simpa using h123
     have q11:(c2 != 123)=true:=by simpa using h123
     go_wp2_with fail
     refine(QcA HS2.out _).mono ?_;rintro e w3⟨rfl,h3,F3⟩;have HS3:=Hi h3;clear h3;have HF3:=Hi (HF2.out.trans F3);clear F3
     go_wp2_with fail
     go_ret;rw[HR.out];exact⟨rfl,HS3.out,HF3.out⟩
   ·rw[if_neg h117]at hr1
    have q10:(c==117)=false:=by simpa using h117
    have HR:Hid (Res=err (c,σ1)):=Hi hr1;clear hr1
    go_wp2_with fail
    refine(QcA HS1.out _).mono ?_;rintro e w2⟨rfl,h2,F2⟩;have HS2:=Hi h2;clear h2;have HF2:=Hi (HF1.out.trans F2);clear F2
    go_wp2_with fail
    go_ret;rw[HR.out];exact⟨rfl,HS2.out,HF2.out⟩
theorem Qeg(t:List UInt8)(σ:Sc):σ.p≤(nxt t σ).2.p:=by
 by_cases h:σ.p<t.length
 ·exact Nat.le_of_lt (nxt_p h).1
 ·exact Nat.le_of_eq (Qhk (by omega)).2.symm
def Nx(t:List UInt8)(σ:Sc)(s:Cs):Prop:=∃σ':Sc,σ.p≤σ'.p∧s.1=(nxt t σ').1∧s.2.p=(nxt t σ').2.p
theorem Nx.mu{s:Cs}(h:Nx t σ s):mu t s≤rem t σ:=by
 obtain⟨σ',h1,h2,h3⟩:=h;have:=Qbk t σ';unfold Pg.mu Pg.rem at *;rw[h2,h3];omega
theorem Nx.nxt(t:List UInt8)(σ:Sc):Nx t σ (nxt t σ):=⟨σ,Xb _,rfl,rfl⟩
theorem Nx.p{s:Cs}(h:Nx t σ s):σ.p≤s.2.p:=by obtain⟨σ',h1,h2,h3⟩:=h;rw[h3];exact Xe h1 (Qeg _ _)
theorem Nx.next{s:Cs}(h:Nx t σ s):Nx t σ (Pg.nxt t s.2):=⟨s.2,h.p,rfl,rfl⟩
theorem Nx.err{s:Cs}(h:Nx t σ s):Nx t σ (err s):=by obtain⟨σ',h1,h2,h3⟩:=h;exact⟨σ',h1,h2,h3⟩
theorem Nx.hexL{mx:Nat}:∀{n:Nat}{s:Cs},Nx t σ s→Nx t σ (hexL t mx n s).2:=by
 induction mx with
 | zero=>intro n s h;exact h
 | succ f ih =>
  intro n s h;rw[Pg.hexL];split
  ·exact ih h.next
  ·exact h
theorem Nx.hex{mn mx:Nat}{s:Cs}(h:Nx t σ s):Nx t σ (Qbj t mn mx s):=by
 unfold Qbj;simp only;split
 ·exact(Nx.hexL h).err
 ·exact Nx.hexL h
theorem Nx.esc(t:List UInt8)(σ:Sc):Nx t σ (Qbn t σ):=by
 have h1:=Nx.nxt t σ;unfold Qbn;simp only;split
 ·exact h1.next
 ·split
  ·exact h1.next.hex
  ·split
   ·split
    ·split
     ·exact h1.next.next.hex.next
     ·exact h1.next.next.hex.err
    ·exact h1.next.err
   ·exact h1.err
def StRl(t:List UInt8)(r:Rdr)(lo b:Nat)(w:World)(Res:Sc)(s2 s3:Value)(wr:World):Prop :=
 ∃(f:Nat)(n c:Int)(σ':Sc),s2=.int .i64 n∧s3=.int .i32 c∧SW t r lo b σ' wr∧Fr r.rb b lo w wr∧mu t (c,σ')<f∧strL t f (c,σ')=Res
theorem Qhs(h:SW t r lo b σ w):Calls prog 128 #[.pointer (some ⟨b,0,none⟩)] w fun e w'=>(∃n,e=.returned (.int .i64 n))∧SW t r lo b (QbC t σ) w'∧Fr r.rb b lo w w':=by
 go_enter func128,ntmps128
 go_wp2_with fail
 refine(QaX h).mono ?_;rintro e w1⟨rfl,h1,F1⟩;have HR:Hid (StRl t r lo b w (QbC t σ) (.int .i64 0) (.int .i32 (nxt t σ).1) w1):=Hi ⟨t.length+2,0,(nxt t σ).1,(nxt t σ).2,rfl,rfl,h1,F1,Qef t σ,rfl⟩;clear h h1 F1;generalize (nxt t σ).1=c0 at *;generalize hge:QbC t σ=Res at *;have HGE:=Hi hge;clear hge
 go_wp2_with fail
 go_loopw [2,3] (fun s2 s3 wr=>StRl t r lo b w Res s2 s3 wr) (fun _ s3 wr=>muW t.length b s3 wr)
 case atStart=>exact HR.out
 case round =>
  clear HR;obtain⟨f,n,c,σ',rfl,rfl,h1,F1,hm,hres⟩:=hrel;cases f with
  | zero=>exact absurd hm (Nat.not_lt_zero _)
  | succ f =>
   have HF:=Hi F1;clear F1;have HMU:=Hi (h1.mu .i32 c);have HM:=Hi hm;clear hm;have HS:=Hi h1;clear h1;by_cases h34:c=34
   ·have HE:Hid (σ'=Res):=Hi (by rw[←hres,strL];simp[h34])
    subst h34;clear hres
    go_wp2_with fail
    go_ret;exact⟨⟨_,rfl⟩,by rw[HGE.out,←HE.out];exact HS.out,HF.out⟩
   have q1:(c==34)=false:=by simpa using h34
   have q2:(c != 34)=true:=by simpa using h34
   by_cases h10:c=10
   ·have HE:Hid ({σ' with er:=true}=Res):=Hi (by rw[←hres,strL,if_neg h34,if_pos (.inl h10)];rfl)
    have q3:(c==10)=true:=by simpa using h10
    clear hres
    go_wp2_with fail
    refine(QcA HS.out _).mono ?_;rintro e w2⟨rfl,h2,F2⟩;have HS2:=Hi h2;clear h2;have HF2:=Hi (HF.out.trans F2);clear F2
    go_wp2_with fail
    go_ret;exact⟨⟨_,rfl⟩,by rw[HGE.out,←HE.out];exact HS2.out,HF2.out⟩
   have q3:(c==10)=false:=by simpa using h10
   by_cases hneg:c<0
   ·have HE:Hid ({σ' with er:=true}=Res):=Hi (by rw[←hres,strL,if_neg h34,if_pos (.inr hneg)];rfl)
    clear hres
    go_wp2_with fail
    refine(QcA HS.out _).mono ?_;rintro e w2⟨rfl,h2,F2⟩;have HS2:=Hi h2;clear h2;have HF2:=Hi (HF.out.trans F2);clear F2
    go_wp2_with fail
    go_ret;exact⟨⟨_,rfl⟩,by rw[HGE.out,←HE.out];exact HS2.out,HF2.out⟩
   have HN:Hid (c≠-1):=Hi (by omega);have q4:0≤c:=by omega
   by_cases h92:c=92
   ·have HE:Hid (strL t f (Qbn t σ')=Res):=Hi (by rw[←hres,strL,if_neg h34,if_neg (by omega),if_pos h92])
    have q5:(c==92)=true:=by simpa using h92
    clear hres
    go_wp2_with fail
    refine(Qhr HS.out).mono ?_;rintro e w2⟨rfl,h2,F2⟩;have HS2:=Hi h2;clear h2;have HF2:=Hi (HF.out.trans F2);clear F2;have hmm:=(Nx.esc t σ').mu;have hm1:=HM.out;rw[Qbc HN.out]at hm1;have HREL:Hid (∀n':Int,StRl t r lo b w Res (.int .i64 n') (.int .i32 (Qbn t σ').1) w2):=Hi fun n'=>⟨f,n',_,_,rfl,rfl,HS2.out,HF2.out,by show mu t (Qbn t σ')<f;omega,HE.out⟩
    have HLT:Hid (muW t.length b (.int .i32 (Qbn t σ').1) w2<mu t (c,σ')):=Hi (by rw[HS2.out.mu,Qbc HN.out];show mu t (Qbn t σ')<_;omega);clear hmm hm1;generalize (Qbn t σ').1=cx at *
    go_wp2_with fail
    exact⟨HREL.out _,by rw[HMU.out];exact HLT.out⟩
   ·have HE:Hid (strL t f (nxt t σ')=Res):=Hi (by rw[←hres,strL,if_neg h34,if_neg (by omega),if_neg h92])
    have q5:(c==92)=false:=by simpa using h92
    clear hres
    go_wp2_with fail
    refine(QaX HS.out).mono ?_;rintro e w2⟨rfl,h2,F2⟩;have HS2:=Hi h2;clear h2;have HF2:=Hi (HF.out.trans F2);clear F2;have hmm:=Qbk t σ';have hm1:=HM.out;rw[Qbc HN.out]at hm1;have HREL:Hid (∀n':Int,StRl t r lo b w Res (.int .i64 n') (.int .i32 (nxt t σ').1) w2):=Hi fun n'=>⟨f,n',_,_,rfl,rfl,HS2.out,HF2.out,by show mu t (nxt t σ')<f;omega,HE.out⟩
    have HLT:Hid (muW t.length b (.int .i32 (nxt t σ').1) w2<mu t (c,σ')):=Hi (by rw[HS2.out.mu,Qbc HN.out];show mu t (nxt t σ')<_;omega);clear hmm hm1;generalize (nxt t σ').1=cx at *
    go_wp2_with fail
    exact⟨HREL.out _,by rw[HMU.out];exact HLT.out⟩
variable {t:List UInt8}{r:Rdr}{lo b:Nat}{σ:Sc}{w w':World}
theorem Qht(c0:Int)(hc0:c0≠47)(h:SW t r lo b σ w):Calls prog 129 #[.pointer (some ⟨b,0,none⟩),.int .i32 c0] w (ChP t r lo b (QaT t (c0,σ)) w):=by
 have q0:(c0==47)=false:=by simpa using hc0
 go_enter func129,ntmps129
 go_wp2_with fail
 refine(QaX h).mono ?_;rintro e w1⟨rfl,h1,F1⟩;have HR:Hid (Qcp t r lo b (comL t) w (QaT t (c0,σ)) (.int .i32 (nxt t σ).1) w1):=Hi ⟨t.length+2,(nxt t σ).1,(nxt t σ).2,rfl,h1,F1,Qef t σ,by unfold QaT;rw[if_neg (show ¬(c0,σ).1=47 from hc0)]⟩;clear h h1 F1;generalize (nxt t σ).1=c1 at *;generalize hge:QaT t (c0,σ)=Res at *;have HGE:=Hi hge;clear hge
 go_wp2_with fail
 go_loopw [1] (fun s wr=>Qcp t r lo b (comL t) w Res s wr) (fun s wr=>muW t.length b s wr)
 case atStart=>exact HR.out
 case round =>
  clear HR;obtain⟨f,c,σ',rfl,h1,F1,hm,hres⟩:=hrel;cases f with
  | zero=>exact absurd hm (Nat.not_lt_zero _)
  | succ f =>
   have HF:=Hi F1;clear F1;have HMU:=Hi (h1.mu .i32 c);have HM:=Hi hm;clear hm;have HS:=Hi h1;clear h1;by_cases hneg:c<0
   ·have HE:Hid (err (c,σ')=Res):=Hi (by rw[←hres,comL,if_pos hneg])
    clear hres
    go_wp2_with fail
    refine(QcA HS.out _).mono ?_;rintro e w2⟨rfl,h2,F2⟩;have HS2:=Hi h2;clear h2;have HF2:=Hi (HF.out.trans F2);clear F2
    go_wp2_with fail
    go_ret;rw[←HE.out];exact⟨rfl,HS2.out,HF2.out⟩
   ·have q4:0≤c:=by omega
    have HN:Hid (c≠-1):=Hi (by omega);have hr:(if c=42∧(nxt t σ').1=47 then nxt t (nxt t σ').2 else comL t f (nxt t σ'))=Res:=by rw[←hres,comL,if_neg hneg]
    have HR1:=Hi hr;clear hres hr
    go_wp2_with fail
    refine(QaX HS.out).mono ?_;rintro e w2⟨rfl,h2,F2⟩;have HS2:=Hi h2;clear h2;have HF2:=Hi (HF.out.trans F2);clear F2;have hmm:=Qbk t σ';have hm1:=HM.out;rw[Qbc HN.out]at hm1;have HREL:Hid (comL t f (nxt t σ')=Res→Qcp t r lo b (comL t) w Res (.int .i32 (nxt t σ').1) w2):=Hi fun he=>⟨f,_,_,rfl,HS2.out,HF2.out,by show mu t (nxt t σ')<f;omega,he⟩
    have HLT:Hid (muW t.length b (.int .i32 (nxt t σ').1) w2<mu t (c,σ')):=Hi (by rw[HS2.out.mu,Qbc HN.out];show mu t (nxt t σ')<_;omega);clear hmm hm1;generalize hs2:nxt t σ'=s2 at *;obtain⟨c2,σ2⟩:=s2;simp only at HS2 HREL HLT HR1;clear hs2;by_cases hst:c=42
    ·by_cases hsl:c2=47
     ·have HE:Hid (nxt t σ2=Res):=Hi (by have:=HR1.out;rwa [if_pos ⟨hst,hsl⟩]at this)
      have q5:(c==42)=true:=by simpa using hst
      have q6:(c2==47)=true:=by simpa using hsl
      go_wp2_with fail
      refine(QaX HS2.out).mono ?_;rintro e w3⟨rfl,h3,F3⟩;have HS3:=Hi h3;clear h3;have HF3:=Hi (HF2.out.trans F3);clear F3
      go_wp2_with fail
      go_ret;rw[←HE.out];exact⟨rfl,HS3.out,HF3.out⟩
     ·have q5:(c==42)=true:=by simpa using hst
      have q6:(c2==47)=false:=by simpa using hsl
      have HE:Hid (comL t f (c2,σ2)=Res):=Hi (by have:=HR1.out;rwa [if_neg (fun h=>hsl h.2)]at this);clear hst hsl
      go_wp2_with fail
      exact⟨HREL.out HE.out,by rw[HMU.out];exact HLT.out⟩
    ·have q5:(c==42)=false:=by simpa using hst
     have HE:Hid (comL t f (c2,σ2)=Res):=Hi (by have:=HR1.out;rwa [if_neg (fun h=>hst h.1)]at this);clear hst
     go_wp2_with fail
     exact⟨HREL.out HE.out,by rw[HMU.out];exact HLT.out⟩
theorem Qhu(c0:Int)(h:SW t r lo b σ w):Calls prog 129 #[.pointer (some ⟨b,0,none⟩),.int .i32 c0] w (ChP t r lo b (QaT t (c0,σ)) w):=by
 by_cases hc:c0=47
 ·subst hc;exact Qgd h
 ·exact Qht c0 hc h
def OpP(t:List UInt8)(r:Rdr)(lo b:Nat)(res:Int×Cs)(w:World)(e:Ending)(w':World):Prop :=
 e=.returned (.tuple #[.int .i64 res.1,.int .i32 res.2.1])∧SW t r lo b res.2.2 w'∧Fr r.rb b lo w w'
theorem oneop_no{c:Int}(h:¬Qee c=true):(c==64)=false∧(c==46)=false∧(c==44)=false∧(c==59)=false∧(c==40)=false∧(c==41)=false∧(c==123)=false∧(c==125)=false∧(c==91)=false∧(c==93)=false∧(c==43)=false∧(c==45)=false∧(c==42)=false:=by
 simp[Qee]at h;simp;omega
theorem Qf2(c0 c:Int)(h:SW t r lo b σ w):Calls prog 130 #[.pointer (some ⟨b,0,none⟩),.int .i32 c0,.int .i32 c] w (OpP t r lo b (Qbo t c0 (c,σ)) w):=by
 have HS:=Hi h;have HR0:Hid (Qbo t c0 (c,σ)=(if Qee c0=true then(5,(c,σ))
 else if c0=58 then(5,if c=58 then nxt t σ else(c,σ))
 else if c0=33∨c0=60∨c0=62 then(5,if c=61 then nxt t σ else(c,σ))
 else if c0=61∨c0=124∨c0=38 then(if c=c0 then(5,nxt t σ)else(6,(c,σ)))
 else(6,(c,σ)))):=Hi rfl
 clear h;generalize Qbo t c0 (c,σ)=Res at *;by_cases hone:Qee c0=true
 ·have HR:Hid (Res=(5,(c,σ))):=Hi (by rw[HR0.out,if_pos hone])
  have hcc:=Qfe hone;clear hone HR0;rcases hcc with rfl | rfl | rfl | rfl | rfl | rfl | rfl | rfl | rfl | rfl | rfl | rfl | rfl
  all_goals
   go_enter func130,ntmps130
   go_wp2_with fail
   go_ret2
   rw[HR.out];exact⟨rfl,HS.out,Fr.refl _ _ _ _⟩
 ·have hr1:=HR0.out
  rw[if_neg hone]at hr1;obtain⟨q1,q2,q3,q4,q5,q6,q7,q8,q9,q10,q11,q12,q13⟩:=oneop_no hone;clear HR0 hone;by_cases h58:c0=58
  ·rw[if_pos h58]at hr1
   have hr2:Res=(if c=58 then(5,nxt t σ)else(5,(c,σ))):=by rw[hr1];split<;>rfl
   clear hr1;rename _=>hr1;subst h58;by_cases hcc:c=58
   ·have HR:Hid (Res=(5,nxt t σ)):=Hi (by rw[hr1,if_pos hcc])
    clear hr1;subst hcc;go_enter func130,ntmps130
    go_wp2_with fail
    refine(QaX HS.out).mono ?_;rintro e w2⟨rfl,h2,F2⟩;have HS2:=Hi h2;clear h2;have HF2:=Hi F2;clear F2
    go_wp2_with fail
    go_ret2
    rw[HR.out];exact⟨rfl,HS2.out,HF2.out⟩
   ·have HR:Hid (Res=(5,(c,σ))):=Hi (by rw[hr1,if_neg hcc])
    clear hr1;have z1:(c==58)=false:=by simpa using hcc
    have z2:(c != 58)=true:=by simpa using hcc
    clear hcc;go_enter func130,ntmps130
    go_wp2_with fail
    go_ret2
    rw[HR.out];exact⟨rfl,HS.out,Fr.refl _ _ _ _⟩
  rw[if_neg h58]at hr1;have p1:(c0==58)=false:=by simpa using h58
  by_cases h3:c0=33∨c0=60∨c0=62
  ·rw[if_pos h3]at hr1
   have hr2:Res=(if c=61 then(5,nxt t σ)else(5,(c,σ))):=by rw[hr1];split<;>rfl
   clear hr1;rename _=>hr1;clear h58;rcases h3 with rfl | rfl | rfl
   all_goals
    by_cases hcc:c=61
    ·have HR:Hid (Res=(5,nxt t σ)):=Hi (by rw[hr1,if_pos hcc])
     clear hr1;subst hcc;go_enter func130,ntmps130
     go_wp2_with fail
     refine(QaX HS.out).mono ?_;rintro e w2⟨rfl,h2,F2⟩;have HS2:=Hi h2;clear h2;have HF2:=Hi F2;clear F2
     go_wp2_with fail
     go_ret2
     rw[HR.out];exact⟨rfl,HS2.out,HF2.out⟩
    ·have HR:Hid (Res=(5,(c,σ))):=Hi (by rw[hr1,if_neg hcc])
     clear hr1;have z1:(c==61)=false:=by simpa using hcc
     have z2:(c != 61)=true:=by simpa using hcc
     clear hcc;go_enter func130,ntmps130
     go_wp2_with fail
     go_ret2
     rw[HR.out];exact⟨rfl,HS.out,Fr.refl _ _ _ _⟩
  rw[if_neg h3]at hr1;have p2:(c0==33)=false:=by simp;omega
  have p3:(c0==60)=false:=by simp;omega
  have p4:(c0==62)=false:=by simp;omega
  by_cases h6:c0=61∨c0=124∨c0=38
  ·rw[if_pos h6]at hr1
   clear h58 h3;rcases h6 with rfl | rfl | rfl
   ·skip
    by_cases hcc:c=61
    ·have HR:Hid (Res=(5,nxt t σ)):=Hi (by rw[hr1,if_pos hcc])
     clear hr1;subst hcc;go_enter func130,ntmps130
     go_wp2_with fail
     refine(QaX HS.out).mono ?_;rintro e w2⟨rfl,h2,F2⟩;have HS2:=Hi h2;clear h2;have HF2:=Hi F2;clear F2
     go_wp2_with fail
     go_ret2
     rw[HR.out];exact⟨rfl,HS2.out,HF2.out⟩
    ·have HR:Hid (Res=(6,(c,σ))):=Hi (by rw[hr1,if_neg hcc])
     clear hr1;have z1:(c==61)=false:=by simpa using hcc
     have z2:(c != 61)=true:=by simpa using hcc
     clear hcc;go_enter func130,ntmps130
     go_wp2_with fail
     go_ret2
     rw[HR.out];exact⟨rfl,HS.out,Fr.refl _ _ _ _⟩
   ·skip
    by_cases hcc:c=124
    ·have HR:Hid (Res=(5,nxt t σ)):=Hi (by rw[hr1,if_pos hcc])
     clear hr1;subst hcc;go_enter func130,ntmps130
     go_wp2_with fail
     refine(QaX HS.out).mono ?_;rintro e w2⟨rfl,h2,F2⟩;have HS2:=Hi h2;clear h2;have HF2:=Hi F2;clear F2
     go_wp2_with fail
     go_ret2
     rw[HR.out];exact⟨rfl,HS2.out,HF2.out⟩
    ·have HR:Hid (Res=(6,(c,σ))):=Hi (by rw[hr1,if_neg hcc])
     clear hr1;have z1:(c==124)=false:=by simpa using hcc
     have z2:(c != 124)=true:=by simpa using hcc
     clear hcc;go_enter func130,ntmps130
     go_wp2_with fail
     go_ret2
     rw[HR.out];exact⟨rfl,HS.out,Fr.refl _ _ _ _⟩
   ·skip
    by_cases hcc:c=38
    ·have HR:Hid (Res=(5,nxt t σ)):=Hi (by rw[hr1,if_pos hcc])
     clear hr1;subst hcc;go_enter func130,ntmps130
     go_wp2_with fail
     refine(QaX HS.out).mono ?_;rintro e w2⟨rfl,h2,F2⟩;have HS2:=Hi h2;clear h2;have HF2:=Hi F2;clear F2
     go_wp2_with fail
     go_ret2
     rw[HR.out];exact⟨rfl,HS2.out,HF2.out⟩
    ·have HR:Hid (Res=(6,(c,σ))):=Hi (by rw[hr1,if_neg hcc])
     clear hr1;have z1:(c==38)=false:=by simpa using hcc
     have z2:(c != 38)=true:=by simpa using hcc
     clear hcc;go_enter func130,ntmps130
     go_wp2_with fail
     go_ret2
     rw[HR.out];exact⟨rfl,HS.out,Fr.refl _ _ _ _⟩
  rw[if_neg h6]at hr1;have p5:(c0==61)=false:=by simp;omega
  have p6:(c0==124)=false:=by simp;omega
  have p7:(c0==38)=false:=by simp;omega
  have HR:=Hi hr1;clear hr1 h58 h3 h6;go_enter func130,ntmps130
  go_wp2_with fail
  go_ret2
  rw[HR.out];exact⟨rfl,HS.out,Fr.refl _ _ _ _⟩
variable {t:List UInt8}{r:Rdr}{lo b:Nat}{σ:Sc}{w w':World}{F:Fd}{tb:List UInt8}
theorem reset_c(h:Sn w lo b F tb):Calls prog 123 #[.pointer (some ⟨b,1033,none⟩)] w fun e w'=>e=.returned (.tuple #[])∧Sn w' lo b F []∧Ext (fun d=>d=b) w w':=by
 have hblt:=h.lt;obtain⟨hB,lr,hc⟩:=LibA.IsBuffer.cases h;rcases hc with⟨hnil,h3⟩ | ⟨g,cap,cur,h3,hg1,hg2,hg3,hg4,hg5,hg6,hg7⟩
 ·have c0:=h3.c0
  have c1:=h3.c1;have c2:=h3.c2;have f0:=h3.f 1033;have f1:=h3.f 1034;have f2:=h3.f 1035;have HH:=Hi h3;clear h3 h hnil;go_enter func123,ntmps123;go_wp2
  go_end0
  refine⟨rfl,LibA.zero_isBuffer hB (((HH.out.set0 _).set1 _).set2 _),?_⟩;exact(((Ext.refl (fun d=>d=b) w).setb _ _).setb _ _).setb _ _
 ·have c0:=h3.c0
  have c1:=h3.c1;have c2:=h3.c2;have f0:=h3.f 1033;have f1:=h3.f 1034;have f2:=h3.f 1035;have HH:=Hi h3;have HG:Hid (w.heap[g]? =some (.cells cur 5 (0,0))∧cap≤maxLen∧cur.size=cap∧g≠b∧lo≤g):=Hi ⟨hg2,hg4,hg5,hg7,hg1⟩;unfold maxLen at hg4;clear h3 h hg1 hg2 hg5 hg6 hg7;go_enter func123,ntmps123;go_wp2
  go_end0
  refine⟨rfl,?_,?_⟩
  ·have hne:=HG.out.2.2.2.1
   have hk:=LibA.isBuffer_mk (n:=0) (T:=249) (R:=RF F) (e:=5) hB (((HH.out.set0 (.slice (some ⟨g,0,none⟩) 0 cap)).set1 (.int .i64 0)).set2 (.int .i8 0)) HG.out.2.2.2.2 (by rw[Below.heap_setCell _ _ _ _ hne,Below.heap_setCell _ _ _ _ hne,Below.heap_setCell _ _ _ _ hne];exact HG.out.1) (Nat.zero_le _) HG.out.2.1 HG.out.2.2.1 hne;rw[List.take_zero]at hk;exact hk
  ·exact(((Ext.refl (fun d=>d=b) w).setb _ _).setb _ _).setb _ _
def resL:List ByteArray:=[⟨#[116,114,117,101]⟩,⟨#[102,97,108,115,101]⟩,⟨#[105,102]⟩,⟨#[116,104,101,110]⟩,⟨#[101,108,115,101]⟩,⟨#[105,110]⟩,⟨#[108,105,107,101]⟩,⟨#[104,97,115]⟩,⟨#[105,115]⟩,⟨#[95,95,99,101,100,97,114]⟩]
def Qdv(s:ByteArray):Bool:=Lib.containsS resL s
theorem resL_c(w:World):Calls prog 168 #[] w fun e w'=>e=.returned (.slice (some ⟨w.heap.size,0,none⟩) 10 10)∧w'=w.alloc (.cells (resL.map Value.string).toArray 9):=by
 go_enter func168,ntmps168;go_wp2;go_ret;exact⟨rfl,rfl⟩
theorem keyw_c(s:ByteArray)(w:World):Calls prog 132 #[.string s] w fun e w'=>e=.returned (.bool (Qdv s))∧Below w.heap.size w w':=by
 have HI:=Hi (show Qdv s=Lib.containsS resL s from rfl);generalize Qdv s=B at *;go_enter func132,ntmps132
 go_wp2_with fail
 refine(resL_c w).mono ?_;rintro e w1⟨rfl,rfl⟩
 go_wp2_with fail
 refine(Tryz.slices_Contains_string w.heap.size 0 10 10 resL s _ (by decide) (by decide) (fun j hj=>?_)).mono ?_
 ·refine(Qaa (Xa w _) ?_)
  rw[Nat.zero_add,List.getElem?_toArray,List.getElem?_map,List.getD_eq_getElem?_getD,List.getElem?_eq_getElem hj];rfl
 rintro e w2⟨rfl,rfl⟩
 go_wp2_with fail
 go_ret;refine⟨?_,Qab _ _⟩;rw[HI.out];rfl
variable {t:List UInt8}{r:Rdr}{lo b:Nat}{σ:Sc}{w w':World}{F:Fd}{tb:List UInt8}{off pos en:Nat}
theorem Qge(t:List UInt8)(s m n:Nat)(h:s+m+n≤t.length):(t.drop s).take m++(List.range n).map (fun j=>t.getD (s+m+j) 0)=(t.drop s).take (m+n):=by
 refine List.ext_getElem? fun i=>?_
 by_cases h1:i<m
 ·rw[List.getElem?_append_left (by rw[List.length_take,List.length_drop];omega),List.getElem?_take_of_lt h1,List.getElem?_take_of_lt (by omega)]
 ·have hl:((t.drop s).take m).length=m:=by rw[List.length_take,List.length_drop];omega
  rw[List.getElem?_append_right (by omega),hl,List.getElem?_map];by_cases h2:i<m+n
  ·rw[List.getElem?_take_of_lt h2,List.getElem?_drop,List.getElem?_range (by omega)]
   show some (t.getD (s+m+(i-m)) 0)=_;rw[show s+m+(i-m)=s+i by omega,List.getD_eq_getElem?_getD,List.getElem?_eq_getElem (show s+i<t.length by omega)];rfl
  ·rw[List.getElem?_eq_none (by rw[List.length_range];omega),List.getElem?_eq_none (by rw[List.length_take];omega)]
   rfl
def tokT(t:List UInt8)(s e:Nat):List UInt8:=(t.drop s).take (e-s)
theorem text_c(X:SWX t r lo b σ σ.lcl w F tb off pos en)(hte:F.te=(pos:Int)-(σ.lcl:Int)){s:Nat}(hs:σ.ts=some s) :
  Calls prog 131 #[.pointer (some ⟨b,0,none⟩)] w fun e w'=>e=.returned (.string ⟨(tokT t s (σ.p-σ.lcl)).toArray⟩)∧SW t r lo b σ w'∧Fr r.rb b lo w w':=by
 have htok:=X.wf.tok;rw[hs]at htok;obtain⟨k,hk,hkl,hsk,htb⟩:=htok;have hp:=X.wf.hp;have hl1:=X.wf.len;have hl2:=X.wf.le1;have hl3:=X.wf.le2;have hl4:=X.hlen;have hblt:=X.sn.lt;have hblo:=X.sn.hlo;have c0:=X.sn.c_tp;have c1:=X.sn.c_te;have f0:=X.sn.free 1036;rw[hk]at c0;have hlcl:=X.wf.lcle;have hte':F.te=((pos-σ.lcl:Nat):Int):=by omega
 rw[hte']at c1;generalize hq:pos-σ.lcl=q at *;have HTE:=Hi hte';clear hte hte';have HX:=Hi X;clear X;have HK:=Hi hk;clear hk;have HTB:=Hi htb;have HS:=Hi hs;clear hs;have g0:(0:Int)≤k:=by omega
 have g1:(k:Int)≤(q:Int):=by omega
 have g2:(q:Int)≤1025:=by omega
 have g3:k≤q:=by omega
 have g4:q≤1025:=by omega
 have g5:¬1025=k:=by omega
 have g6:q≤en:=by omega
 have g7:q≤pos:=by omega
 have hkk:¬(k:Int)<0:=by omega
 have hql:tb.length≤1000000:=by have:=congrArg List.length htb;rw[List.length_take,List.length_drop]at this;omega
 have hql2:tb.length+(q-k)≤1000000:=by have:=congrArg List.length htb;rw[List.length_take,List.length_drop]at this;omega
 have HLEN:=Hi (Tryz.Buffer_Len_at 249 (RF F) lo b 1033 (Lib.byteCells tb) w HX.out.sn);rw[Lib.byteCells_length]at HLEN;have HQ:Hid (off+q=σ.p-σ.lcl∧off+k≤off+q∧off+q≤t.length):=Hi ⟨by omega,by omega,by omega⟩;clear htb hq;by_cases h0:tb.length=0
 ·have HB:Hid (s=off+k):=Hi (by
   have:=congrArg List.length HTB.out;rw[List.length_take,List.length_drop]at this;omega)
  have hcv:∀n,(convert 78 9 (.slice (some ⟨b,1+k,none⟩) (q-k) (1025-k))).run prog (w.drewN n)=.ok (.string ⟨(tokT t s (σ.p-σ.lcl)).toArray⟩) (w.drewN n):=fun n=>by
   have hlen:(tokT t s (σ.p-σ.lcl)).length=q-k:=by
    unfold tokT;rw[List.length_take,List.length_drop];have:=HB.out;have:=HQ.out;omega
   have:=run_convert_bytes_back (P:=prog) (w.drewN n) 78 9 5 ⟨b,1+k,none⟩ (1025-k) (tokT t s (σ.p-σ.lcl)) underlying78 underlying5 underlying9 (fun j hj=>by
    have hj':j<q-k:=by rw[hlen]at hj;exact hj
    have e1:w.cell? ⟨b,1+(k+j),none⟩=some (.int .u8 ((F.buf (k+j)).toNat:Int)):=HX.out.sn.bufAt (k+j) (by omega);rw[HX.out.wf.buf (k+j) (by omega)]at e1;rw[QcE,show 1+k+j=1+(k+j)by omega];refine(show(w.drewN n).cell? ⟨b,1+(k+j),none⟩=w.cell? ⟨b,1+(k+j),none⟩from rfl).trans (e1.trans ?_);have e2:(tokT t s (σ.p-σ.lcl))[j]'hj=t.getD (off+(k+j)) 0:=by
     have h1:(tokT t s (σ.p-σ.lcl))[j]? =t[s+j]? := by
      unfold tokT;rw[List.getElem?_take_of_lt (by have:=HB.out;have:=HQ.out;omega),List.getElem?_drop]
     have h2:=List.getElem?_eq_getElem hj;rw[h1]at h2;rw[List.getD_eq_getElem?_getD,show off+(k+j)=s+j by have:=HB.out;omega,h2];rfl
    rw[e2])
   rw[hlen]at this;exact this
  have h0':((tb.length:Int)==0)=true:=by rw[h0];rfl
  have h0'':(tb.length:Int)=0:=by omega
  go_enter func131,ntmps131
  go_wp2_with fail
  refine HLEN.out.mono ?_;rintro e w1⟨rfl,nd,rfl⟩
  go_wp2_with fail
  have c0':(w.drewN nd).cell? ⟨b,1036,none⟩=some (.int .i64 (k:Int)):=c0;have c1':(w.drewN nd).cell? ⟨b,1037,none⟩=some (.int .i64 (q:Int)):=c1
  go_quiet (fail)
  go_wp2_with fail
  go_ret;exact⟨rfl,⟨_,_,_,_,_,(HX.out.move ((HX.out.sn.drewN _).drewN _) (((Ext.refl _ _).drewN _).drewN _) HX.out.wf rfl:SWX t r lo b σ σ.lcl _ F tb off pos en)⟩,((Fr.refl _ _ _ _).drewN _).drewN _⟩
 ·have h0':((tb.length:Int)==0)=false:=by simpa using h0
  go_enter func131,ntmps131
  go_wp2_with fail
  refine HLEN.out.mono ?_;rintro e w1⟨rfl,nd,rfl⟩
  go_wp2_with fail
  have c0':(w.drewN nd).cell? ⟨b,1036,none⟩=some (.int .i64 (k:Int)):=c0;have c1':(w.drewN nd).cell? ⟨b,1037,none⟩=some (.int .i64 (q:Int)):=c1;refine QaK 15 (by kernel_rfl) (by kernel_rfl) ?_;simp only[List.take_succ_cons,List.take_zero,List.drop_succ_cons,List.drop_zero]
  repeat still_step
  refine wpStill_nil ?_
  go_wp2_with fail
  refine(Qhf ((HX.out.sn.drewN nd).drew) k (q-k) _ (by omega) hql2 HX.out.hlo).mono ?_;rintro e w3⟨rfl,hS,hB,hK⟩;have d0:=hS.c_tp;have d1:=hS.c_te;have e0:=hS.free 1036;have hlt3:=hS.lt;rw[HTE.out]at d1;have HS3:=Hi hS;clear hS;have HB3:=Hi hB;clear hB;have HK3:=Hi hK;clear hK;have HT:Hid (tb++(List.range (q-k)).map (fun j=>F.buf (k+j))=tokT t s (σ.p-σ.lcl)):=Hi (by
   have h2:=HQ.out;unfold tokT;rw[HTB.out,show σ.p-σ.lcl-s=(off+k-s)+(q-k)by omega,←Qge t s (off+k-s) (q-k) (by omega)]
   congr 1
   refine List.map_congr_left fun j hj=>?_
   have hj':j<q-k:=by simpa using hj
   rw[HX.out.wf.buf (k+j) (by omega),show s+(off+k-s)+j=off+(k+j)by omega])
  go_wp2_with fail
  have S4:=HS3.out.s_tp (q:Int);rw[HT.out]at S4;refine(Tryz.Buffer_String_at 249 _ lo b 1033 _ _ S4).mono ?_;rintro e w4⟨rfl,n4,rfl⟩
  go_wp2_with fail
  go_ret;refine⟨rfl,⟨_,_,_,_,_,(HX.out.move (S4.drewN _) ?_ {HX.out.wf with tok:=?_} rfl:SWX t r lo b σ σ.lcl _ {F with tp:=(q:Int)} (tokT t s (σ.p-σ.lcl)) off pos en)⟩,?_⟩
  ·exact((((Ext.refl _ _).drewN nd).drew.trans (.ofBelow HB3.out (fun d h _=>h) (Fr.kept (rb:=0) HB3.out HK3.out HX.out.sn.notok).ok)).set (.inl hblo) _).drewN _
  ·rw[HS.out]
   have h2:=HQ.out;refine⟨q,rfl,by omega,by omega,?_⟩;unfold tokT;rw[show σ.p-σ.lcl-s=off+q-s by omega]
  ·exact((((Fr.refl _ _ _ _).drewN nd).drew.trans (Fr.kept HB3.out HK3.out HX.out.sn.notok)).set _ _).drewN _
end Go.Proofs.Pg
namespace Go.Proofs.Pg
open Go.RowKit
attribute [local go_sem] Oper.semAt_some
theorem Qdw{P:Program}{a:Act}{w:World}{Q:Exit→Act→World→Prop}{c rest:Code}(l:Nat)(J:Act→World→Prop)(μ:Act→World→Nat)(hf:findLabel c l=some (.seq .skip rest))
  (pass:∀a w,J a w→rest.wp P (Exit.jump l (fun a' w'=>J a' w'∧μ a' w'<μ a w) Q) a w)
  (first:(∀a w,J a w→rest.wp P (Exit.jump l J Q) a w)→c.wp P (Exit.jump l J Q) a w):(Code.scope c).wp P Q a w:=by
 refine wp_scope_jumps l J μ hf (first fun a w hJ=>Code.wp_mono ?_ (pass a w hJ)) (fun a w hJ=>wp_seq (wp_skip (pass a w hJ)));intro e a' w' h;cases e with
 | goto l'=>exact⟨h.1,h.2.1⟩
 | normal=>exact h
 | exit id=>exact h
 | ret=>exact h
 | panic ch=>exact h
 | outgrown=>exact h
section
variable (t:List UInt8)
def QaJ(σ:Sc):Sc:={σ with ts:=some (σ.p-σ.lcl),po:=((σ.p-σ.lcl:Nat):Int),pl:=if 0<σ.col then σ.ln else wrap64 (σ.ln-1),pc:=if 0<σ.col then σ.col else σ.lll}
def Qb4:Nat→Cs→Int×Cs
 | 0,s=>(6,s)
 | f+1,s =>
  let u:=QaA t s
  let σ:=QaJ u.2
  if u.1=-1 then(0,(u.1,σ))
  else if isId u.1 true=true then(1,Qc3 t σ)
  else if QaZ u.1=true then(2,QbN t (u.1,σ))
  else if u.1=34 then(4,nxt t (QbC t σ))
  else if u.1=47 then(let v:=nxt t σ;if v.1=47∨v.1=42 then Qb4 f (QaT t (v.1,{v.2 with ts:=none}))else Qbo t 47 v)
  else Qbo t u.1 (nxt t σ)
def Qdx(ty:Int)(σ:Sc):Tok :=
 let tx:ByteArray:=⟨((σ.ts.map fun s=>tokT t s (σ.p-σ.lcl)).getD []).toArray⟩
 {ty:=if ty=1∧Qdv tx=true then 3 else ty,fn:=⟨#[]⟩,off:=σ.po,ln:=σ.pl,col:=σ.pc,tx:=tx}
def QaG(σ:Sc):Cs:=if σ.ch=-2 then((nxt t σ).1,{(nxt t σ).2 with ch:=(nxt t σ).1,ts:=none,pl:=0})else(σ.ch,{σ with ts:=none,pl:=0})
def Qa3(σ:Sc):Tok×Sc :=
 let p:=Qb4 t (t.length+3) (QaG t σ)
 (Qdx t p.1 p.2.2,{p.2.2 with ch:=p.2.1})
end
def Kp(a b:Sc):Prop:=b.ts=a.ts∧b.po=a.po∧b.pl=a.pl∧b.pc=a.pc
theorem Kp.refl(a:Sc):Kp a a:=⟨rfl,rfl,rfl,rfl⟩
theorem Kp.trans{a b c:Sc}(h:Kp a b)(k:Kp b c):Kp a c:=⟨k.1.trans h.1,k.2.1.trans h.2.1,k.2.2.1.trans h.2.2.1,k.2.2.2.trans h.2.2.2⟩
theorem Kp.nxt(t:List UInt8)(σ:Sc):Kp σ (nxt t σ).2:=by
 unfold Pg.nxt
 repeat' split
 all_goals exact⟨rfl,rfl,rfl,rfl⟩
theorem Kp.id(t:List UInt8):∀(f:Nat)(s:Cs),Kp s.2 (idL t f s).2
 | 0,s=>Kp.refl _
 | f+1,s=>by rw[idL];split;exact(Kp.nxt t s.2).trans (Kp.id t f _);exact Kp.refl _
theorem Kp.num(t:List UInt8):∀(f:Nat)(s:Cs),Kp s.2 (numL t f s).2
 | 0,s=>Kp.refl _
 | f+1,s=>by rw[numL];split;exact(Kp.nxt t s.2).trans (Kp.num t f _);exact Kp.refl _
theorem Kp.hexL(t:List UInt8):∀(f n:Nat)(s:Cs),Kp s.2 (hexL t f n s).2.2
 | 0,n,s=>Kp.refl _
 | f+1,n,s=>by rw[Pg.hexL];split;exact(Kp.nxt t s.2).trans (Kp.hexL t f _ _);exact Kp.refl _
theorem Kp.err(s:Cs):Kp s.2 (err s).2:=⟨rfl,rfl,rfl,rfl⟩
theorem Kp.hex(t:List UInt8)(mn mx:Nat)(s:Cs):Kp s.2 (Qbj t mn mx s).2:=by
 unfold Qbj;simp only;split
 ·exact(Kp.hexL t mx 0 s).trans (Kp.err _)
 ·exact Kp.hexL t mx 0 s
theorem Kp.esc(t:List UInt8)(σ:Sc):Kp σ (Qbn t σ).2:=by
 have h1:=Kp.nxt t σ;have h2:=h1.trans (Kp.nxt t (Pg.nxt t σ).2);unfold Qbn;simp only;split
 ·exact h2
 ·split
  ·exact h2.trans (Kp.hex t 2 2 _)
  ·split
   ·split
    ·have h3:=h2.trans (Kp.nxt t (Pg.nxt t (Pg.nxt t σ).2).2)
     have h4:=h3.trans (Kp.hex t 1 6 _);split
     ·exact h4.trans (Kp.nxt t _)
     ·exact h4.trans (Kp.err _)
    ·exact h2.trans (Kp.err _)
   ·exact h1.trans (Kp.err _)
theorem Kp.str(t:List UInt8):∀(f:Nat)(s:Cs),Kp s.2 (strL t f s)
 | 0,s=>Kp.refl _
 | f+1,s=>by
  rw[strL];split
  ·exact Kp.refl _
  ·split
   ·exact Kp.err _
   ·split
    ·exact(Kp.esc t s.2).trans (Kp.str t f _)
    ·exact(Kp.nxt t s.2).trans (Kp.str t f _)
theorem Kp.op(t:List UInt8)(c0:Int)(s:Cs):Kp s.2 (Qbo t c0 s).2.2:=by
 unfold Qbo
 repeat' split
 all_goals first | exact Kp.refl _ | exact Kp.nxt t _
theorem Qhv(t:List UInt8):∀(f:Nat)(s:Cs),mu t (wsL t f s)≤mu t s
 | 0,s=>Xb _
 | f+1,s=>by
  rw[wsL];split
  ·rename_i h
   have h1:=Qhv t f (nxt t s.2);have h2:=Qbk t s.2;have h3:mu t s=rem t s.2+1:=Qbc (c:=s.1) (σ:=s.2) (by intro e;rw[e]at h;exact absurd h (by decide));omega
  ·exact Xb _
theorem Qf3(t:List UInt8):∀(f:Nat)(s:Cs),mu t (lineL t f s)≤mu t s
 | 0,s=>Xb _
 | f+1,s=>by
  rw[lineL];split
  ·rename_i h
   have h1:=Qf3 t f (nxt t s.2);have h2:=Qbk t s.2;have h3:mu t s=rem t s.2+1:=Qbc (c:=s.1) (σ:=s.2) (by omega);omega
  ·exact Xb _
theorem Qhw(t:List UInt8):∀(f:Nat)(s:Cs),mu t (comL t f s)≤mu t s
 | 0,s=>Xb _
 | f+1,s=>by
  rw[comL];split
  ·exact Xb _
  ·rename_i h
   have h2:=Qbk t s.2;have h3:mu t s=rem t s.2+1:=Qbc (c:=s.1) (σ:=s.2) (by omega);simp only;split
   ·rename_i h47
    have h4:=Qbk t (nxt t s.2).2;have h5:mu t (nxt t s.2)=rem t (nxt t s.2).2+1:=Qbc (c:=(nxt t s.2).1) (σ:=(nxt t s.2).2) (by omega);omega
   ·have h1:=Qhw t f (nxt t s.2)
    omega
theorem com_mu(t:List UInt8)(c:Int)(σ:Sc):mu t (QaT t (c,σ))≤rem t σ:=by
 unfold QaT;split
 ·exact Xe (Qf3 t _ _) (Qbk t σ)
 ·exact Xe (Qhw t _ _) (Qbk t σ)
theorem Qdy(t:List UInt8){s u v:Cs}(hu:QaA t s=u)(h47:u.1=47)(hv:nxt t (QaJ u.2)=v)(hc:v.1=47∨v.1=42):mu t (QaT t (v.1,{v.2 with ts:=none}))+1<mu t s:=by
 have h1:mu t u≤mu t s:=by rw[←hu];exact Qhv t _ _
 have h2:mu t u=rem t u.2+1:=Qbc (c:=u.1) (σ:=u.2) (by omega);have h3:mu t v≤rem t (QaJ u.2):=by rw[←hv];exact Qbk t _
 have h4:mu t v=rem t v.2+1:=Qbc (c:=v.1) (σ:=v.2) (by omega);have h5:=com_mu t v.1 {v.2 with ts:=none};have h6:rem t (QaJ u.2)=rem t u.2:=rfl;have h7:rem t {v.2 with ts:=none}=rem t v.2:=rfl;omega
theorem Qhx(t:List UInt8):∀(f:Nat)(s:Cs),mu t s<f→∃k,(Qb4 t f s).2.2.ts=some k
 | 0,s,h=>absurd h (Nat.not_lt_zero _)
 | f+1,s,h=>by
  rw[Qb4];simp only;generalize hu:QaA t s=u;have hp:(QaJ u.2).ts=some (u.2.p-u.2.lcl):=rfl;split
  ·exact⟨_,rfl⟩
  ·split
   ·exact⟨_,((Kp.nxt t _).trans (Kp.id t _ _)).1.trans hp⟩
   ·split
    ·exact⟨_,(Kp.num t _ (u.1,QaJ u.2)).1.trans hp⟩
    ·split
     ·exact⟨_,(((Kp.nxt t _).trans (Kp.str t _ _)).trans (Kp.nxt t _)).1.trans hp⟩
     ·split
      ·split
       ·rename_i h47 hc
        have:=Qdy t hu h47 rfl hc;exact Qhx t f _ (Nat.lt_of_lt_of_le (Nat.lt_of_succ_lt this) (Nat.le_of_lt_succ h))
       ·exact⟨_,((Kp.nxt t _).trans (Kp.op t 47 _)).1.trans hp⟩
      ·exact⟨_,((Kp.nxt t _).trans (Kp.op t u.1 _)).1.trans hp⟩
end Go.Proofs.Pg
namespace Go.Proofs.Pg
open Go.RowKit Go.Proofs.Tryz
attribute [local go_sem] Oper.semAt_some
variable {t:List UInt8}{r:Rdr}{lo b:Nat}{σ:Sc}{w w':World}
theorem Fr.heap{rb b lo:Nat}{x y:World}(h:Fr rb b lo x y){d:Nat}{c:Array Value}{T:TypeId}{fr:Nat×Nat}(hd:x.heap[d]? =some (.cells c T fr))(hT:T≠5)(h1:d≠rb)(h2:d≠b):y.heap[d]? =some (.cells c T fr):=by
 refine(h.block d (Qad hd) ?_).trans hd;rintro(e | e |⟨_,c',fr',e⟩)
 ·exact h1 e
 ·exact h2 e
 ·rw[hd]at e
  injection e with e
  injection e with _ e _
  exact hT e
abbrev zTok:Array Value:=#[.int .i64 0,.string ⟨#[]⟩,.int .i64 0,.int .i64 0,.int .i64 0,.string ⟨#[]⟩]
theorem Sn.other{S:Nat→Prop}{F:Fd}{tb:List UInt8}(h:Sn w lo b F tb)(he:Ext S w w')(hb:¬S b)(hs:∀d,S d→∀c fr,w.heap[d]?≠some (.cells c 5 fr)):Sn w' lo b F tb:=by
 have hblt:=h.lt;obtain⟨hB,v,lr,h3,hown,hne⟩:=h;exact⟨hB,v,lr,h3.of_heap (he.block b hblt hb),Qdj hown he (fun d hd=>.inr (hs d hd)),hne⟩
theorem Qgf{P:Program}{f:FuncId}{args:Array Value}{W:World}{Q:Ending→World→Prop}(h:∀w2,w2=W→Calls P f args w2 Q):Calls P f args W Q:=h W rfl
def NtR(t:List UInt8)(r:Rdr)(lo b rk:Nat)(w0:World)(Res:Int×Cs)(s3:Value)(wr:World):Prop :=
 ∃(f:Nat)(c:Int)(σ':Sc),s3=.int .i32 c∧SW t r lo b σ' wr∧Fr r.rb b lo w0 wr∧mu t (c,σ')<f∧Qb4 t f (c,σ')=Res∧wr.heap[rk]? =some (.cells zTok 122 (0,0))
def fr88(b rk:Nat)(s3:Value)(u:Nat→Value):Array Value:=#[.pointer (some ⟨b,0,none⟩),undef,.pointer (some ⟨rk,0,none⟩),s3,u 4,u 5,u 6,u 7,u 8,u 9,u 10,u 11,u 12,u 13,u 14,u 15,u 16,u 17,u 18,u 19,u 20,u 21,u 22,u 23,u 24,u 25,u 26,u 27,u 28,u 29,u 30,u 31,u 32,u 33,u 34,u 35,u 36,u 37,u 38,u 39,u 40,u 41,u 42,u 43,u 44,u 45,u 46,u 47,u 48,u 49,u 50,u 51,u 52,u 53,u 54,u 55,u 56,u 57,u 58,u 59,u 60,u 61,u 62,u 63,u 64,u 65,u 66,u 67,u 68,u 69,u 70,u 71,u 72,u 73,u 74,u 75,u 76,u 77,u 78,u 79,u 80,u 81,u 82,u 83,u 84,u 85,u 86,u 87,u 88,u 89,u 90,u 91,u 92,u 93,u 94,u 95,u 96,u 97,u 98,u 99,u 100,u 101,u 102,u 103,u 104,u 105,u 106,u 107,u 108,u 109,u 110,u 111,u 112,u 113,u 114,u 115,u 116,u 117,u 118,u 119,u 120,u 121,u 122,u 123,u 124,u 125,u 126,u 127,u 128,u 129,u 130,u 131,u 132,u 133,u 134,u 135,u 136,u 137,u 138,u 139,u 140,u 141,u 142,u 143,u 144,u 145,u 146,u 147,u 148,u 149,u 150,u 151,u 152,u 153,u 154,u 155,u 156,u 157,u 158,u 159,u 160,u 161,u 162,u 163,u 164,u 165,u 166,u 167,u 168,u 169,u 170,u 171,u 172,u 173,u 174,u 175,u 176,u 177,u 178,u 179,u 180,u 181,u 182,u 183]
def NtJ(t:List UInt8)(r:Rdr)(lo b rk:Nat)(w0:World)(Res:Int×Cs)(a':Act)(w':World):Prop :=
 a'={tmps:=fr88 b rk (a'.tmps.getD 3 undef) (fun k=>a'.tmps.getD k undef),defers:=[]}∧NtR t r lo b rk w0 Res (a'.tmps.getD 3 undef) w'
def WsR(t:List UInt8)(r:Rdr)(lo b:Nat)(w0:World)(u:Cs)(s3:Value)(wr:World):Prop:=s3=.int .i32 u.1∧SW t r lo b u.2 wr∧Fr r.rb b lo w0 wr
def SwR(t:List UInt8)(r:Rdr)(lo b:Nat)(w0:World)(res:Int×Cs)(s3 s4:Value)(wr:World):Prop:=s3=.int .i32 res.2.1∧s4=.int .i64 res.1∧SW t r lo b res.2.2 wr∧Fr r.rb b lo w0 wr
def TkP(t:List UInt8)(r:Rdr)(lo b:Nat)(w:World)(res:Tok×Sc)(e:Ending)(w':World):Prop:=e=.returned res.1.val∧SW t r lo b res.2 w'∧Fr r.rb b lo w w'
theorem SW.setTs(h:SW t r lo b σ w):SW t r lo b {σ with ts:=none} (w.setCell ⟨b,1036,none⟩ (.int .i64 (-1))):=by
 obtain⟨F,tb,off,pos,en,X⟩:=h;exact⟨_,tb,off,pos,en,X.move (X.sn.s_tp (-1)) ((Ext.refl _ _).set (.inl X.sn.hlo) _) {X.wf with tok:=rfl} rfl⟩
theorem SW.cells(h:SW t r lo b σ w):b<w.heap.size∧(∃v,w.cell? ⟨b,1036,none⟩=some (.int .i64 v))∧w.frozen? ⟨b,1036,none⟩=false:=by
 obtain⟨F,tb,off,pos,en,X⟩:=h;exact⟨X.sn.lt,⟨_,X.sn.c_tp⟩,X.sn.free 1036⟩
theorem Qe5(h:SW t r lo b σ w)(hrb:r.rb<lo):Calls prog 88 #[.pointer (some ⟨b,0,none⟩)] w (TkP t r lo b w (Qa3 t σ)):=by
 have HRES:Hid (Qa3 t σ=(Qdx t (Qb4 t (t.length+3) (QaG t σ)).1 (Qb4 t (t.length+3) (QaG t σ)).2.2,{(Qb4 t (t.length+3) (QaG t σ)).2.2 with ch:=(Qb4 t (t.length+3) (QaG t σ)).2.1})):=Hi rfl;have HTS:Hid (∃k,(Qb4 t (t.length+3) (QaG t σ)).2.2.ts=some k):=Hi (Qhx t _ _ (by have:=Qfd t (QaG t σ);omega));generalize hge:Qa3 t σ=Out at *;have HGE:=Hi hge;clear hge;generalize hgr:Qb4 t (t.length+3) (QaG t σ)=Res at *
 have HGR:=Hi hgr;clear hgr;have HSW:=Hi h;clear h;go_enter func88,ntmps88;go_wp2;obtain⟨rk,hrk⟩:∃rk,w.heap.size=rk:=⟨_,rfl⟩
 have hrkb:rk≠b:=by obtain⟨F,tb,off,pos,en,X⟩:=HSW.out;have:=X.sn.lt;omega
 have hrkr:rk≠r.rb:=by obtain⟨F,tb,off,pos,en,X⟩:=HSW.out;have:=X.hlo;omega
 have HRK:=Hi hrk;refine Qdw 0 (NtJ t r lo b rk w Res) (fun a' w'=>muW t.length b (a'.tmps.getD 3 undef) w') rfl ?_ ?_
 ·rintro a' wr⟨ha,hN⟩
  generalize (fun k=>a'.tmps.getD k undef)=u at ha;generalize a'.tmps.getD 3 undef=s3 at ha hN;subst ha;obtain⟨f,c,σ',rfl,h1,F1,hm,hres,hK⟩:=hN;dsimp only[fr88];clear hrk;have HMU:=Hi (h1.mu .i32 c);have HM:=Hi hm;clear hm;have HS:=Hi h1;clear h1;have HF:=Hi F1;clear F1;have HK:=Hi hK;clear hK;obtain⟨f,rfl⟩:∃f',f=f'+1:=⟨f-1,by have:=HM.out;omega⟩
  have HR0:Hid (Res=(if(QaA t (c,σ')).1=-1 then(0,((QaA t (c,σ')).1,QaJ (QaA t (c,σ')).2))
   else if isId (QaA t (c,σ')).1 true=true then(1,Qc3 t (QaJ (QaA t (c,σ')).2))
   else if QaZ (QaA t (c,σ')).1=true then(2,QbN t ((QaA t (c,σ')).1,QaJ (QaA t (c,σ')).2))
   else if(QaA t (c,σ')).1=34 then(4,nxt t (QbC t (QaJ (QaA t (c,σ')).2)))
   else if(QaA t (c,σ')).1=47 then(if(nxt t (QaJ (QaA t (c,σ')).2)).1=47∨(nxt t (QaJ (QaA t (c,σ')).2)).1=42 then Qb4 t f (QaT t ((nxt t (QaJ (QaA t (c,σ')).2)).1,{(nxt t (QaJ (QaA t (c,σ')).2)).2 with ts:=none}))else Qbo t 47 (nxt t (QaJ (QaA t (c,σ')).2)))
   else Qbo t (QaA t (c,σ')).1 (nxt t (QaJ (QaA t (c,σ')).2)))):=Hi (by rw[←hres];rfl)
  have HSTEP:Hid (∀v,nxt t (QaJ (QaA t (c,σ')).2)=v→(QaA t (c,σ')).1=47→(v.1=47∨v.1=42)→mu t (QaT t (v.1,{v.2 with ts:=none}))+1<mu t (c,σ')):=Hi fun v hv h47 hc=>Qdy t rfl h47 hv hc
  clear hres;have HWS0:Hid (Qcp t r lo b (wsL t) wr (QaA t (c,σ')) (.int .i32 c) wr):=Hi ⟨t.length+2,c,σ',rfl,HS.out,Fr.refl _ _ _ _,Qfd _ _,rfl⟩;generalize QaA t (c,σ')=u at *
  go_upto_block 0 with(fail)
  go_cut [3] (fun s wx=>WsR t r lo b wr u s wx)
  case first =>
   go_wp2_with fail
   go_loopw [3] (fun s wx=>Qcp t r lo b (wsL t) wr u s wx) (fun s wx=>muW t.length b s wx)
   case atStart=>exact HWS0.out
   case round =>
    clear HWS0 HR0 HSTEP;obtain⟨g,c9,σ9,rfl,h9,F9,hm9,hres9⟩:=hrel;obtain⟨g,rfl⟩:∃f',g=f'+1:=⟨g-1,by omega⟩
    have HF9:=Hi F9;clear F9;have HMU9:=Hi (h9.mu .i32 c9);have HM9:=Hi hm9;clear hm9;have HS9:=Hi h9;clear h9;cases hc:isWs c9 with
    | true =>
     have HC:=Hi hc;have HE:Hid (wsL t g (nxt t σ9)=u):=Hi (by rw[←hres9,wsL];simp[hc]);have HI:Hid (∀w,Calls prog 122 #[.int .i32 c9] w fun e w'=>e=.returned (.bool true)∧w'=w):=Hi (by have:=ws_c c9;rw[hc]at this;exact this);clear hres9 hc
     go_wp2_with(go_at_call 122;(with_reducible refine(HI.out _).mono ?_);rintro e w' ⟨rfl,rfl⟩)
     refine(QaX HS9.out).mono ?_;rintro e w2⟨rfl,h2,F2⟩;have HS2:=Hi h2;clear h2;have HF2:=Hi F2;clear F2
     go_wp2_with fail
     have hne:c9≠-1:=by rintro rfl;exact absurd HC.out (by decide)
     have hmm:=Qbk t σ9;have hm1:=HM9.out;rw[Qbc hne]at hm1;refine⟨⟨g,_,_,rfl,HS2.out,HF9.out.trans HF2.out,by show mu t (nxt t σ9)<g;omega,HE.out⟩,?_⟩;rw[HMU9.out,Qbc hne,HS2.out.mu];show mu t (nxt t σ9)<_;omega
    | false =>
     have HE:Hid ((c9,σ9)=u):=Hi (by rw[←hres9,wsL];simp[hc]);have HI:Hid (∀w,Calls prog 122 #[.int .i32 c9] w fun e w'=>e=.returned (.bool false)∧w'=w):=Hi (by have:=ws_c c9;rw[hc]at this;exact this);clear hres9 hc
     go_wp2_with(go_at_call 122;(with_reducible refine(HI.out _).mono ?_);rintro e w' ⟨rfl,rfl⟩)
     go_meet
     rw[←HE.out];exact⟨rfl,HS9.out,HF9.out⟩
  case rest =>
   obtain⟨rfl,h2,F2⟩:=hcut;obtain⟨c1,σ1⟩:=u;simp only at HR0 HSTEP h2;clear HWS0;have HF2:=Hi (HF.out.trans F2);have HK2:=Hi (F2.heap HK.out (by decide) hrkr hrkb);clear F2 HS HF HK;obtain⟨F,tb,off,pos,en,X⟩:=h2;have HX:=Hi X;clear X
   go_wp2_with fail
   refine(reset_c HX.out.sn).mono ?_;rintro e w3⟨rfl,S3,E3⟩;have HF3:=Hi (HF2.out.trans (Fr.of_b E3));have HK3:=Hi (E3.heap hrkb HK2.out);have hwf:=HX.out.wf;have hp1:=hwf.hp;have hp2:=hwf.len;have hp3:=hwf.le1;have hp4:=hwf.le2;have hp5:=hwf.lcle;have hp6:=HX.out.hlen;have hblt:=S3.lt;have hblo:=S3.hlo;have d0:=S3.c_pos;have d1:=S3.c_lcl;have d2:=S3.c_tp;rw[hwf.fpos]at d0;rw[hwf.flcl]at d1;have e0:=S3.free 1036
   have HE3:=Hi E3;clear E3;have HS3:=Hi S3;clear S3;have HWF:=Hi hwf;clear hwf;have g1:(σ1.lcl:Int)≤(pos:Int):=by omega
   have g2:(pos:Int)≤1024:=by omega
   have g3:(off:Int)≤1000000:=by omega
   clear HF2 HK2
   go_wp2_with fail
   go_region
   all_goals
    go_upto_region 10 with(fail)
    refine Qba fun w4 hw4=>?_
    have S4:Sn w4 lo b {F with tp:=(pos:Int)-(σ1.lcl:Int)} []:=hw4▸(HS3.out.s_tp _).drew;have E4:Ext (fun d=>d=b) wc w4:=hw4▸(HE3.out.setb _ _).drew;have HF4:Hid (Fr r.rb b lo w w4):=Hi (hw4▸(HF3.out.set _ _).drew);have HK4:Hid (w4.heap[rk]? =some (.cells zTok 122 (0,0))):=Hi (hw4▸Qag HK3.out hrkb _);clear hw4 d0 d1 d2 e0 hblt;have hblt:=S4.lt;have d0:=S4.c_off;have d1:=S4.c_tp;have d2:=S4.c_po;simp only at d0 d1 d2
    rw[HWF.out.foff]at d0;have e0:=S4.free 1041;have HS4:=Hi S4;clear S4;have HE4:=Hi E4;clear E4
    go_region
    all_goals
     go_upto_region 11 with(fail)
     refine Qba fun w5 hw5=>?_
     have S5:Sn w5 lo b {F with tp:=(pos:Int)-(σ1.lcl:Int),po:=(off:Int)+((pos:Int)-(σ1.lcl:Int))} []:=hw5▸(HS4.out.s_po _).drew;have E5:Ext (fun d=>d=b) wc w5:=hw5▸(HE4.out.setb _ _).drew;have HF5:Hid (Fr r.rb b lo w w5):=Hi (hw5▸(HF4.out.set _ _).drew);have HK5:Hid (w5.heap[rk]? =some (.cells zTok 122 (0,0))):=Hi (hw5▸Qag HK4.out hrkb _);clear hw5 d0 d1 d2 e0 hblt;have hblt:=S5.lt;have d0:=S5.c_col
     have d1:=S5.c_ln;have d2:=S5.c_lll;have d3:=S5.c_pl;have d4:=S5.c_pc;simp only at d0 d1 d2 d3 d4;rw[HWF.out.fcol]at d0;rw[HWF.out.fln]at d1;rw[HWF.out.flll]at d2;have e0:=S5.free 1042;have e1:=S5.free 1043;have HS5:=Hi S5;clear S5;have HE5:=Hi E5;clear E5
     go_cut [65] (fun s wx=>s=.bool (decide (0<σ1.col))∧wx=w5)
     case first =>
      go_wp2_with fail
      go_meet
      exact⟨rfl,rfl⟩
     case rest =>
      obtain⟨rfl,hwx⟩:=hcut;have hwx':=hwx.symm;subst hwx';clear hwx
      go_upto_if 65 with(fail)
      go_cut [82] (fun _ wx=>SW t r lo b (QaJ σ1) wx∧Fr r.rb b lo w wx∧wx.heap[rk]? =some (.cells zTok 122 (0,0)))
      case first =>
       have HTOK:Hid (tokF t off pos σ1.lcl ((pos:Int)-(σ1.lcl:Int)) [] (QaJ σ1).ts):=Hi ⟨pos-σ1.lcl,by omega,by omega,by show σ1.p-σ1.lcl≤_;omega,by
        rw[show off+(pos-σ1.lcl)-(σ1.p-σ1.lcl)=0 by omega,List.take_zero]⟩
       have HPO:Hid ((off:Int)+((pos:Int)-(σ1.lcl:Int))=((σ1.p-σ1.lcl:Nat):Int)):=Hi (by omega);by_cases hcol:0<σ1.col
       ·have hcol':decide (0<σ1.col)=true:=decide_eq_true hcol
        have HC:=Hi hcol
        go_wp2_with fail
        go_meet
        refine⟨⟨_,[],off,pos,en,HX.out.move ((HS5.out.s_pl _).s_pc _) (Qc8 ((HE5.out.setb _ _).setb _ _) hblo) {HWF.out with tok:=HTOK.out,fpo:=HPO.out,fpl:=?_,fpc:=?_} rfl⟩,(HF5.out.set _ _).set _ _,Qag (Qag HK5.out hrkb _) hrkb _⟩
        ·exact(if_pos HC.out).symm
        ·exact(if_pos HC.out).symm
       ·have hcol':decide (0<σ1.col)=false:=decide_eq_false hcol
        have HC:=Hi hcol
        go_wp2_with fail
        go_meet
        refine⟨⟨_,[],off,pos,en,HX.out.move ((HS5.out.s_pl _).s_pc _) (Qc8 ((HE5.out.setb _ _).setb _ _) hblo) {HWF.out with tok:=HTOK.out,fpo:=HPO.out,fpl:=?_,fpc:=?_} rfl⟩,(HF5.out.set _ _).set _ _,Qag (Qag HK5.out hrkb _) hrkb _⟩
        ·exact(if_neg (Int.not_lt.2 HC.out)).symm
        ·exact(if_neg (Int.not_lt.2 HC.out)).symm
      case rest =>
       obtain⟨h6,F6,K6⟩:=hcut;have HS6:=Hi h6;clear h6;have HF6:=Hi F6;clear F6;have HK6:=Hi K6;clear K6;clear d0 d1 d2 d3 d4 e0 e1 hblt HS5 HE5 HF5 HK5 HS4 HE4 HF4 HK4 HS3 HE3 HF3 HK3 HWF HX hp1 hp2 hp3 hp4 hp5 hp6 g1 g2 g3;obtain⟨w6,hw6⟩:∃w6,w6=wc:=⟨_,rfl⟩
       subst hw6
       go_upto_block 2 with(fail)
       go_cut [3,4] (fun s3 s4 wx=>SwR t r lo b w6 Res s3 s4 wx)
       case first =>
        by_cases hm1:c1=-1
        ·have hr:Res=(0,(c1,QaJ σ1)):=by rw[HR0.out,if_pos hm1]
         have HR:=Hi hr;clear hr HR0;have q1:(c1==-1)=true:=by simpa using hm1
         have HM1:=Hi hm1;clear hm1
         go_wp2_with fail
         go_meet
         rw[HR.out];exact⟨rfl,rfl,HS6.out,Fr.refl _ _ _ _⟩
        have hr1:=HR0.out;rw[if_neg hm1]at hr1;clear HR0;have q1:(c1==-1)=false:=by simpa using hm1
        clear hm1;cases hid:isId c1 true with
        | true =>
         rw[if_pos hid]at hr1;have HR:=Hi hr1;clear hr1;have HI:Hid (∀w,Calls prog 124 #[.int .i32 c1,.bool true] w fun e w'=>e=.returned (.bool true)∧w'=w):=Hi (by have:=id_c c1 true;rw[hid]at this;exact this);clear hid
         go_wp2_with(go_at_call 124;(with_reducible refine(HI.out _).mono ?_);rintro e w' ⟨rfl,rfl⟩)
         refine(scanId_c HS6.out).mono ?_;rintro e w7⟨rfl,h7,F7⟩;have HS7:=Hi h7;clear h7;have HF7:=Hi F7;clear F7;generalize Qc3 t (QaJ σ1)=s7 at *
         go_wp2_with fail
         go_meet
         rw[HR.out];exact⟨rfl,rfl,HS7.out,HF7.out⟩
        | false =>
        rw[if_neg (by rw[hid];decide)]at hr1;have HI:Hid (∀w,Calls prog 124 #[.int .i32 c1,.bool true] w fun e w'=>e=.returned (.bool false)∧w'=w):=Hi (by have:=id_c c1 true;rw[hid]at this;exact this);clear hid;cases hnum:QaZ c1 with
        | true =>
         rw[if_pos hnum]at hr1;have HR:=Hi hr1;clear hr1;have HN:Hid (∀w,Calls prog 126 #[.int .i32 c1] w fun e w'=>e=.returned (.bool true)∧w'=w):=Hi (by have:=Qhj c1;rw[hnum]at this;exact this);clear hnum
         go_wp2_with(first | (go_at_call 124;(with_reducible refine(HI.out _).mono ?_);rintro e w' ⟨rfl,rfl⟩) | (go_at_call 126;(with_reducible refine(HN.out _).mono ?_);rintro e w' ⟨rfl,rfl⟩))
         refine(Qhn c1 HS6.out).mono ?_;rintro e w7⟨rfl,h7,F7⟩;have HS7:=Hi h7;clear h7;have HF7:=Hi F7;clear F7;generalize QbN t (c1,QaJ σ1)=s7 at *
         go_wp2_with fail
         go_meet
         rw[HR.out];exact⟨rfl,rfl,HS7.out,HF7.out⟩
        | false =>
        rw[if_neg (by rw[hnum];decide)]at hr1;have HN:Hid (∀w,Calls prog 126 #[.int .i32 c1] w fun e w'=>e=.returned (.bool false)∧w'=w):=Hi (by have:=Qhj c1;rw[hnum]at this;exact this);clear hnum;by_cases h34:c1=34
        ·rw[if_pos h34]at hr1
         have HR:=Hi hr1;clear hr1;have q2:(c1==34)=true:=by simpa using h34
         clear h34
         go_wp2_with(first | (go_at_call 124;(with_reducible refine(HI.out _).mono ?_);rintro e w' ⟨rfl,rfl⟩) | (go_at_call 126;(with_reducible refine(HN.out _).mono ?_);rintro e w' ⟨rfl,rfl⟩))
         refine(Qhs HS6.out).mono ?_;rintro e w7⟨⟨n7,rfl⟩,h7,F7⟩;have HS7:=Hi h7;clear h7;have HF7:=Hi F7;clear F7
         go_wp2_with fail
         refine(QaX HS7.out).mono ?_;rintro e w8⟨rfl,h8,F8⟩;have HS8:=Hi h8;clear h8;have HF8:=Hi (HF7.out.trans F8);clear F8;generalize nxt t (QbC t (QaJ σ1))=s8 at *
         go_wp2_with fail
         go_meet
         rw[HR.out];exact⟨rfl,rfl,HS8.out,HF8.out⟩
        rw[if_neg h34]at hr1;have q2:(c1==34)=false:=by simpa using h34
        clear h34;by_cases h47:c1=47
        ·rw[if_pos h47]at hr1
         have HR1:=Hi hr1;clear hr1;have HST:Hid (∀v,nxt t (QaJ σ1)=v→(v.1=47∨v.1=42)→mu t (QaT t (v.1,{v.2 with ts:=none}))+1<mu t (c,σ')):=Hi fun v hv hc=>HSTEP.out v hv h47 hc
         subst h47
         go_wp2_with(first | (go_at_call 124;(with_reducible refine(HI.out _).mono ?_);rintro e w' ⟨rfl,rfl⟩) | (go_at_call 126;(with_reducible refine(HN.out _).mono ?_);rintro e w' ⟨rfl,rfl⟩))
         refine(QaX HS6.out).mono ?_;rintro e w7⟨rfl,h7,F7⟩;have HK7:=Hi (F7.heap HK6.out (by decide) hrkr hrkb);have HF7:=Hi F7;clear F7;have hsv:=HST.out _ rfl;have HSV:=Hi hsv;clear hsv HST HSTEP;generalize nxt t (QaJ σ1)=s7 at *;obtain⟨c7,σ7⟩:=s7;simp only at h7 HR1 HSV;by_cases hc7:c7=47∨c7=42
         ·have HE:Hid (Res=Qb4 t f (QaT t (c7,{σ7 with ts:=none}))):=Hi (by rw[HR1.out,if_pos hc7])
          have HMM:=Hi (HSV.out hc7);obtain⟨hb7,⟨v7,d7⟩,e7⟩:=h7.cells;have HS7:=Hi h7;clear h7;have HC7:=Hi hc7;rcases hc7 with rfl | rfl
          all_goals
           go_wp2_with fail
           refine(Qhu _ HS7.out.setTs).mono ?_;rintro e w8⟨rfl,h8,F8⟩;have HS8:=Hi h8;clear h8;have HK8:=Hi (F8.heap (Qag HK7.out hrkb _) (by decide) hrkr hrkb);have HF8:=Hi ((HF7.out.set _ _).trans F8);clear F8;have hmm:=HMM.out;clear HMM;generalize QaT t _=s8 at *;obtain⟨c8,σ8⟩:=s8;simp only at HS8
           go_wp2_with fail
           go_step3
           have hm0:=HM.out;refine⟨rfl,⟨rfl,f,c8,σ8,rfl,HS8.out,HF6.out.trans HF8.out,by omega,HE.out.symm,HK8.out⟩,?_⟩;show muW t.length b (.int .i32 c8) w8<muW t.length b (.int .i32 c) wr;rw[HS8.out.mu,HMU.out];omega
         ·have HE:Hid (Res=Qbo t 47 (c7,σ7)):=Hi (by rw[HR1.out,if_neg hc7])
          have q3:(c7==47)=false:=by simp;omega
          have q4:(c7==42)=false:=by simp;omega
          have HS7:=Hi h7;clear h7 hc7
          go_wp2_with fail
          refine(Qf2 47 c7 HS7.out).mono ?_;rintro e w8⟨rfl,h8,F8⟩;have HS8:=Hi h8;clear h8;have HF8:=Hi (HF7.out.trans F8);clear F8;generalize Qbo t 47 (c7,σ7)=s8 at *;obtain⟨k8,c8,σ8⟩:=s8;simp only at HS8
          go_wp2_with fail
          go_meet
          rw[HE.out];exact⟨rfl,rfl,HS8.out,HF8.out⟩
        ·rw[if_neg h47]at hr1
         have HR1:=Hi hr1;clear hr1;have q3:(c1==47)=false:=by simpa using h47
         clear h47
         go_wp2_with(first | (go_at_call 124;(with_reducible refine(HI.out _).mono ?_);rintro e w' ⟨rfl,rfl⟩) | (go_at_call 126;(with_reducible refine(HN.out _).mono ?_);rintro e w' ⟨rfl,rfl⟩))
         refine(QaX HS6.out).mono ?_;rintro e w7⟨rfl,h7,F7⟩;have HS7:=Hi h7;clear h7;have HF7:=Hi F7;clear F7;generalize nxt t (QaJ σ1)=s7 at *;obtain⟨c7,σ7⟩:=s7;simp only at HS7
         go_wp2_with fail
         refine(Qf2 c1 c7 HS7.out).mono ?_;rintro e w8⟨rfl,h8,F8⟩;have HS8:=Hi h8;clear h8;have HF8:=Hi (HF7.out.trans F8);clear F8;generalize Qbo t c1 (c7,σ7)=s8 at *;obtain⟨k8,c8,σ8⟩:=s8;simp only at HS8
         go_wp2_with fail
         go_meet
         rw[HR1.out];exact⟨rfl,rfl,HS8.out,HF8.out⟩
       case rest =>
        obtain⟨rfl,rfl,h7,F7⟩:=hcut;have HK7:=Hi (F7.heap HK6.out (by decide) hrkr hrkb);have HF7:=Hi (HF6.out.trans F7);clear F7;clear HR0 HSTEP HMU HM HS6 HK6 HF6;obtain⟨kind,c7,σ7⟩:=Res;obtain⟨ks,hks⟩:=HTS.out;simp only at h7 HRES hks;have HKS:=Hi hks;clear hks;have HOUT:=Hi HRES.out;clear HRES HTS HGR;obtain⟨w7,hw7⟩:∃w7,w7=wc:=⟨_,rfl⟩
        subst hw7;obtain⟨F,tb,off,pos,en,X⟩:=h7;have hblt:=X.sn.lt;have hblo:=X.sn.hlo;have d0:=X.sn.c_pos;have d1:=X.sn.c_lcl;have d2:=X.sn.c_te;have d3:=X.sn.c_ch;rw[X.wf.fpos]at d0;rw[X.wf.flcl]at d1;have hp3:=X.wf.le1;have hp4:=X.wf.le2;have hp5:=X.wf.lcle;have g1:(σ7.lcl:Int)≤(pos:Int):=by omega
        have g2:(pos:Int)≤1024:=by omega
        have e0:=X.sn.free 1037;have e1:=X.sn.free 1038;have HX:=Hi X;clear X
        go_wp2_with fail
        go_region
        all_goals
         go_wp2_with fail
         refine Qgf fun w8 hw8=>?_
         have X8:SWX t r lo b {σ7 with ch:=c7} {σ7 with ch:=c7}.lcl w8 {F with te:=(pos:Int)-(σ7.lcl:Int),ch:=c7} tb off pos en:=hw8▸HX.out.move (((HX.out.sn.s_te _).s_ch c7).drew) ((((Ext.refl _ _).set (.inl hblo) _).set (.inl hblo) _).drew) {HX.out.wf with fch:=rfl} rfl;have HF8:Hid (Fr r.rb b lo w w8):=Hi (hw8▸((HF7.out.set _ _).set _ _).drew);have HK8:Hid (w8.heap[rk]? =some (.cells zTok 122 (0,0))):=Hi (hw8▸Qag (Qag HK7.out hrkb _) hrkb _)
         clear hw8;obtain⟨tx,htx⟩:∃tx:ByteArray,tx=⟨(tokT t ks (σ7.p-σ7.lcl)).toArray⟩:=⟨_,rfl⟩
         have HTC:Calls prog 131 #[.pointer (some ⟨b,0,none⟩)] w8 fun e w'=>e=.returned (.string tx)∧SW t r lo b {σ7 with ch:=c7} w'∧Fr r.rb b lo w8 w':=by rw[htx];exact text_c (s:=ks) X8 rfl HKS.out
         refine HTC.mono ?_;clear HTC;rintro e w9⟨rfl,h9,F9⟩;have HK9:=Hi (F9.heap HK8.out (by decide) hrkr hrkb);have HF9:=Hi (HF8.out.trans F9);clear F9 X8;have HTO:Hid (Qdx t kind σ7={ty:=if kind=1∧Qdv tx=true then 3 else kind,fn:=⟨#[]⟩,off:=σ7.po,ln:=σ7.pl,col:=σ7.pc,tx:=tx}):=Hi (by unfold Qdx;simp only;rw[HKS.out,htx];rfl);clear htx;clear d0 d1 d2 d3 e0 e1;have HS9:=Hi h9;obtain⟨F9,tb9,off9,pos9,en9,X9⟩:=h9
         have HX9:=Hi X9;clear X9;by_cases hk1:kind=1
         ·cases hres:Qdv tx with
          | true =>
           have HI:Hid (∀w,Calls prog 132 #[.string tx] w fun e w'=>e=.returned (.bool true)∧Below w.heap.size w w'):=Hi (by have:=keyw_c tx;rw[hres]at this;exact this);have HTT:Hid (Qdx t kind σ7={ty:=3,fn:=⟨#[]⟩,off:=σ7.po,ln:=σ7.pl,col:=σ7.pc,tx:=tx}):=Hi (by rw[HTO.out,if_pos ⟨hk1,hres⟩]);clear hres;subst hk1
           go_wp2_with fail
           refine(HI.out _).mono ?_;rintro e w10⟨rfl,hB10⟩;have X10:=HX9.out.move (HX9.out.sn.old hB10) (.below hB10) HX9.out.wf rfl;have HF10:=Hi (HF9.out.trans (Fr.below hB10));have hK10:=(hB10.block _ (Qad HK9.out)).trans HK9.out;have d0:=X10.sn.c_pf;have d1:=X10.sn.c_po;have d2:=X10.sn.c_pl;have d3:=X10.sn.c_pc;rw[X10.wf.fpf]at d0;rw[X10.wf.fpo]at d1;rw[X10.wf.fpl]at d2;rw[X10.wf.fpc]at d3;simp only at d1 d2 d3
           have hrlt:=Qad hK10;have k0:w10.cell? ⟨rk,0,none⟩=some (.int .i64 0):=Qaa hK10 rfl;have k1:w10.cell? ⟨rk,1,none⟩=some (.string ⟨#[]⟩):=Qaa hK10 rfl;have k2:w10.cell? ⟨rk,2,none⟩=some (.int .i64 0):=Qaa hK10 rfl;have k3:w10.cell? ⟨rk,3,none⟩=some (.int .i64 0):=Qaa hK10 rfl;have k4:w10.cell? ⟨rk,4,none⟩=some (.int .i64 0):=Qaa hK10 rfl;have k5:w10.cell? ⟨rk,5,none⟩=some (.string ⟨#[]⟩):=Qaa hK10 rfl
           have kf0:=Qae hK10 0;have kf1:=Qae hK10 1;have kf2:=Qae hK10 2;have kf3:=Qae hK10 3;have kf4:=Qae hK10 4;have kf5:=Qae hK10 5;have HK10:=Hi hK10;clear hK10;have HX10:=Hi X10;clear X10;clear hB10
           go_wp2_with fail
           have hrk2:w.heap.size≤rk:=Nat.le_of_eq HRK.out;have hlo2:lo≤rk:=by obtain⟨_,_,_,_,_,X⟩:=HSW.out;have:=X.hlo;omega
           show bodyPost prog Tryz.f88 (TkP t r lo b w Out) Exit.ret _ _;refine(fun hfin=>bodyPost_ret (Qao (a:=2) (t:=122) (by kernel_rfl) _ ⟨rk,0,none⟩ rfl _ _ (QfW rk 0 _ (.int .i64 3) (.string ⟨#[]⟩) (.int .i64 σ7.po) (.int .i64 σ7.pl) (.int .i64 σ7.pc) (.string tx) (by kernel_rfl) (by kernel_rfl) (Qaa (o:=0) hfin rfl) (Qaa (o:=1) hfin rfl) (Qaa (o:=2) hfin rfl) (Qaa (o:=3) hfin rfl) (Qaa (o:=4) hfin rfl) (Qaa (o:=5) hfin rfl))) rfl ?_) (Qac (o:=5) (Qac (o:=4) (Qac (o:=3) (Qac (o:=2) (Qac (o:=1) (Qac (o:=0) HK10.out _) _) _) _) _) _)
           rw[HOUT.out];have EK:=((((((Ext.refl (fun d=>d=rk) w10).setb 0 (.int .i64 3)).setb 1 (.string ⟨#[]⟩)).setb 2 (.int .i64 σ7.po)).setb 3 (.int .i64 σ7.pl)).setb 4 (.int .i64 σ7.pc)).setb 5 (.string tx);refine⟨by rw[HTT.out],⟨_,_,_,_,_,HX10.out.move (HX10.out.sn.other EK (fun h=>hrkb h.symm) ?_) (EK.mono fun d h=>by subst h;exact hlo2) HX10.out.wf rfl⟩,?_⟩
           ·intro d hd cc ff hcc
            subst hd;rw[HK10.out]at hcc
            injection hcc with hcc
            injection hcc with _ hcc _
            exact absurd hcc (by decide)
           ·exact((((((Ext.set (a:=w) HF10.out (p:=⟨rk,0,none⟩) (.inr hrk2) _).set (p:=⟨rk,1,none⟩) (.inr hrk2) _).set (p:=⟨rk,2,none⟩) (.inr hrk2) _).set (p:=⟨rk,3,none⟩) (.inr hrk2) _).set (p:=⟨rk,4,none⟩) (.inr hrk2) _).set (p:=⟨rk,5,none⟩) (.inr hrk2) _)
          | false =>
           have HI:Hid (∀w,Calls prog 132 #[.string tx] w fun e w'=>e=.returned (.bool false)∧Below w.heap.size w w'):=Hi (by have:=keyw_c tx;rw[hres]at this;exact this);have HTT:Hid (Qdx t kind σ7={ty:=1,fn:=⟨#[]⟩,off:=σ7.po,ln:=σ7.pl,col:=σ7.pc,tx:=tx}):=Hi (by rw[HTO.out,if_neg (by rw[hres];simp),hk1]);clear hres;subst hk1
           go_wp2_with fail
           refine(HI.out _).mono ?_;rintro e w10⟨rfl,hB10⟩;have X10:=HX9.out.move (HX9.out.sn.old hB10) (.below hB10) HX9.out.wf rfl;have HF10:=Hi (HF9.out.trans (Fr.below hB10));have hK10:=(hB10.block _ (Qad HK9.out)).trans HK9.out;have d0:=X10.sn.c_pf;have d1:=X10.sn.c_po;have d2:=X10.sn.c_pl;have d3:=X10.sn.c_pc;rw[X10.wf.fpf]at d0;rw[X10.wf.fpo]at d1;rw[X10.wf.fpl]at d2;rw[X10.wf.fpc]at d3;simp only at d1 d2 d3
           have hrlt:=Qad hK10;have k0:w10.cell? ⟨rk,0,none⟩=some (.int .i64 0):=Qaa hK10 rfl;have k1:w10.cell? ⟨rk,1,none⟩=some (.string ⟨#[]⟩):=Qaa hK10 rfl;have k2:w10.cell? ⟨rk,2,none⟩=some (.int .i64 0):=Qaa hK10 rfl;have k3:w10.cell? ⟨rk,3,none⟩=some (.int .i64 0):=Qaa hK10 rfl;have k4:w10.cell? ⟨rk,4,none⟩=some (.int .i64 0):=Qaa hK10 rfl;have k5:w10.cell? ⟨rk,5,none⟩=some (.string ⟨#[]⟩):=Qaa hK10 rfl
           have kf0:=Qae hK10 0;have kf1:=Qae hK10 1;have kf2:=Qae hK10 2;have kf3:=Qae hK10 3;have kf4:=Qae hK10 4;have kf5:=Qae hK10 5;have HK10:=Hi hK10;clear hK10;have HX10:=Hi X10;clear X10;clear hB10
           go_wp2_with fail
           have hrk2:w.heap.size≤rk:=Nat.le_of_eq HRK.out;have hlo2:lo≤rk:=by obtain⟨_,_,_,_,_,X⟩:=HSW.out;have:=X.hlo;omega
           show bodyPost prog Tryz.f88 (TkP t r lo b w Out) Exit.ret _ _;refine(fun hfin=>bodyPost_ret (Qao (a:=2) (t:=122) (by kernel_rfl) _ ⟨rk,0,none⟩ rfl _ _ (QfW rk 0 _ (.int .i64 1) (.string ⟨#[]⟩) (.int .i64 σ7.po) (.int .i64 σ7.pl) (.int .i64 σ7.pc) (.string tx) (by kernel_rfl) (by kernel_rfl) (Qaa (o:=0) hfin rfl) (Qaa (o:=1) hfin rfl) (Qaa (o:=2) hfin rfl) (Qaa (o:=3) hfin rfl) (Qaa (o:=4) hfin rfl) (Qaa (o:=5) hfin rfl))) rfl ?_) (Qac (o:=5) (Qac (o:=4) (Qac (o:=3) (Qac (o:=2) (Qac (o:=1) (Qac (o:=0) HK10.out _) _) _) _) _) _)
           rw[HOUT.out];have EK:=((((((Ext.refl (fun d=>d=rk) w10).setb 0 (.int .i64 1)).setb 1 (.string ⟨#[]⟩)).setb 2 (.int .i64 σ7.po)).setb 3 (.int .i64 σ7.pl)).setb 4 (.int .i64 σ7.pc)).setb 5 (.string tx);refine⟨by rw[HTT.out],⟨_,_,_,_,_,HX10.out.move (HX10.out.sn.other EK (fun h=>hrkb h.symm) ?_) (EK.mono fun d h=>by subst h;exact hlo2) HX10.out.wf rfl⟩,?_⟩
           ·intro d hd cc ff hcc
            subst hd;rw[HK10.out]at hcc
            injection hcc with hcc
            injection hcc with _ hcc _
            exact absurd hcc (by decide)
           ·exact((((((Ext.set (a:=w) HF10.out (p:=⟨rk,0,none⟩) (.inr hrk2) _).set (p:=⟨rk,1,none⟩) (.inr hrk2) _).set (p:=⟨rk,2,none⟩) (.inr hrk2) _).set (p:=⟨rk,3,none⟩) (.inr hrk2) _).set (p:=⟨rk,4,none⟩) (.inr hrk2) _).set (p:=⟨rk,5,none⟩) (.inr hrk2) _)
         ·have HTT:Hid (Qdx t kind σ7={ty:=kind,fn:=⟨#[]⟩,off:=σ7.po,ln:=σ7.pl,col:=σ7.pc,tx:=tx}):=Hi (by rw[HTO.out,if_neg (fun h=>hk1 h.1)])
          have hk1':(kind==1)=false:=by simpa using hk1
          clear hk1;obtain⟨w10,hw10⟩:∃w10,w10=w9:=⟨_,rfl⟩
          subst hw10;have hB10:=Below.refl w10.heap.size w10;have X10:=HX9.out.move (HX9.out.sn.old hB10) (.below hB10) HX9.out.wf rfl;have HF10:=Hi (HF9.out.trans (Fr.below hB10));have hK10:=(hB10.block _ (Qad HK9.out)).trans HK9.out;have d0:=X10.sn.c_pf;have d1:=X10.sn.c_po;have d2:=X10.sn.c_pl;have d3:=X10.sn.c_pc;rw[X10.wf.fpf]at d0;rw[X10.wf.fpo]at d1;rw[X10.wf.fpl]at d2;rw[X10.wf.fpc]at d3;simp only at d1 d2 d3
          have hrlt:=Qad hK10;have k0:w10.cell? ⟨rk,0,none⟩=some (.int .i64 0):=Qaa hK10 rfl;have k1:w10.cell? ⟨rk,1,none⟩=some (.string ⟨#[]⟩):=Qaa hK10 rfl;have k2:w10.cell? ⟨rk,2,none⟩=some (.int .i64 0):=Qaa hK10 rfl;have k3:w10.cell? ⟨rk,3,none⟩=some (.int .i64 0):=Qaa hK10 rfl;have k4:w10.cell? ⟨rk,4,none⟩=some (.int .i64 0):=Qaa hK10 rfl;have k5:w10.cell? ⟨rk,5,none⟩=some (.string ⟨#[]⟩):=Qaa hK10 rfl
          have kf0:=Qae hK10 0;have kf1:=Qae hK10 1;have kf2:=Qae hK10 2;have kf3:=Qae hK10 3;have kf4:=Qae hK10 4;have kf5:=Qae hK10 5;have HK10:=Hi hK10;clear hK10;have HX10:=Hi X10;clear X10;clear hB10
          go_wp2_with fail
          have hrk2:w.heap.size≤rk:=Nat.le_of_eq HRK.out;have hlo2:lo≤rk:=by obtain⟨_,_,_,_,_,X⟩:=HSW.out;have:=X.hlo;omega
          show bodyPost prog Tryz.f88 (TkP t r lo b w Out) Exit.ret _ _;refine(fun hfin=>bodyPost_ret (Qao (a:=2) (t:=122) (by kernel_rfl) _ ⟨rk,0,none⟩ rfl _ _ (QfW rk 0 _ (.int .i64 kind) (.string ⟨#[]⟩) (.int .i64 σ7.po) (.int .i64 σ7.pl) (.int .i64 σ7.pc) (.string tx) (by kernel_rfl) (by kernel_rfl) (Qaa (o:=0) hfin rfl) (Qaa (o:=1) hfin rfl) (Qaa (o:=2) hfin rfl) (Qaa (o:=3) hfin rfl) (Qaa (o:=4) hfin rfl) (Qaa (o:=5) hfin rfl))) rfl ?_) (Qac (o:=5) (Qac (o:=4) (Qac (o:=3) (Qac (o:=2) (Qac (o:=1) (Qac (o:=0) HK10.out _) _) _) _) _) _)
          rw[HOUT.out];have EK:=((((((Ext.refl (fun d=>d=rk) w10).setb 0 (.int .i64 kind)).setb 1 (.string ⟨#[]⟩)).setb 2 (.int .i64 σ7.po)).setb 3 (.int .i64 σ7.pl)).setb 4 (.int .i64 σ7.pc)).setb 5 (.string tx);refine⟨by rw[HTT.out],⟨_,_,_,_,_,HX10.out.move (HX10.out.sn.other EK (fun h=>hrkb h.symm) ?_) (EK.mono fun d h=>by subst h;exact hlo2) HX10.out.wf rfl⟩,?_⟩
          ·intro d hd cc ff hcc
           subst hd;rw[HK10.out]at hcc
           injection hcc with hcc
           injection hcc with _ hcc _
           exact absurd hcc (by decide)
          ·exact((((((Ext.set (a:=w) HF10.out (p:=⟨rk,0,none⟩) (.inr hrk2) _).set (p:=⟨rk,1,none⟩) (.inr hrk2) _).set (p:=⟨rk,2,none⟩) (.inr hrk2) _).set (p:=⟨rk,3,none⟩) (.inr hrk2) _).set (p:=⟨rk,4,none⟩) (.inr hrk2) _).set (p:=⟨rk,5,none⟩) (.inr hrk2) _)
 ·intro HP
  have HPASS:=Hi HP;clear HP;clear hrk
  go_upto_region 1 with(fail)
  refine Qba fun w1 hw1=>?_
  have hK1:w1.heap[rk]? =some (.cells zTok 122 (0,0)):=by rw[hw1,←HRK.out];exact Xa _ _
  have h1:SW t r lo b σ w1:=by
   obtain⟨F,tb,off,pos,en,X⟩:=HSW.out;exact hw1▸⟨F,tb,off,pos,en,X.move (X.sn.alloc _) ((Ext.refl _ _).alloc _) X.wf rfl⟩
  have F1:Fr r.rb b lo w w1:=hw1▸(Fr.refl _ _ _ _).alloc _;have HF1:=Hi F1;clear F1;have HK1:=Hi hK1;clear hK1;have HS1:=Hi h1;rw[HRK.out];clear hw1;obtain⟨F,tb,off,pos,en,X⟩:=h1;have hblt:=X.sn.lt;have hblo:=X.sn.hlo;have d0:=X.sn.c_ch;have d1:=X.sn.c_tp;have d2:=X.sn.c_pl;rw[X.wf.fch]at d0;have e0:=X.sn.free 1036;have e1:=X.sn.free 1038;have e2:=X.sn.free 1042;have HX:=Hi X;clear X;by_cases hch:σ.ch=-2
  ·have HC:=Hi hch
   rw[hch]at d0;clear hch
   go_wp2_with fail
   refine(QaX HS1.out).mono ?_;rintro e w2⟨rfl,h2,F2⟩;have HF2:=Hi (HF1.out.trans F2);have HK2:=Hi (F2.heap HK1.out (by decide) hrkr hrkb);clear F2 HX d0 d1 d2 e0 e1 e2 hblt hblo HF1 HK1 HS1 F tb off pos en;obtain⟨F,tb,off,pos,en,X⟩:=h2;have hblt:=X.sn.lt;have hblo:=X.sn.hlo;have d0:=X.sn.c_ch;have d1:=X.sn.c_tp;have d2:=X.sn.c_pl;have e0:=X.sn.free 1036;have e1:=X.sn.free 1038;have e2:=X.sn.free 1042
   have HX:=Hi X;clear X;have HST:Hid (QaG t σ=((nxt t σ).1,{(nxt t σ).2 with ch:=(nxt t σ).1,ts:=none,pl:=0})):=Hi (by unfold QaG;rw[if_pos HC.out]);generalize nxt t σ=s2 at *;obtain⟨c2,σ2⟩:=s2;simp only at HX HST
   go_wp2_with fail
   go_step3
   first | refine HPASS.out _ _ ?_ | (go_step;refine HPASS.out _ _ ?_) | (go_step;go_step;refine HPASS.out _ _ ?_) | trace_state
   refine⟨rfl,t.length+3,c2,{σ2 with ch:=c2,ts:=none,pl:=0},rfl,⟨_,_,_,_,_,HX.out.move (((HX.out.sn.s_ch c2).s_tp (-1)).s_pl 0) ?_ {HX.out.wf with fch:=rfl,tok:=rfl,fpl:=rfl} rfl⟩,?_,by have:=Qfd t (c2,{σ2 with ch:=c2,ts:=none,pl:=0});omega,by rw[←HST.out];exact HGR.out,?_⟩
   ·exact(((Ext.refl _ _).set (.inl hblo) _).set (.inl hblo) _).set (.inl hblo) _
   ·exact((HF2.out.set _ _).set _ _).set _ _
   ·exact Qag (Qag (Qag HK2.out hrkb _) hrkb _) hrkb _
  ·have hch':(σ.ch==-2)=false:=by simpa using hch
   have HC:=Hi hch;clear hch;have HST:Hid (QaG t σ=(σ.ch,{σ with ts:=none,pl:=0})):=Hi (by unfold QaG;rw[if_neg HC.out])
   go_wp2_with fail
   go_step3
   first | refine HPASS.out _ _ ?_ | (go_step;refine HPASS.out _ _ ?_) | (go_step;go_step;refine HPASS.out _ _ ?_) | trace_state
   refine⟨rfl,t.length+3,σ.ch,{σ with ts:=none,pl:=0},rfl,⟨_,_,_,_,_,HX.out.move ((HX.out.sn.s_tp (-1)).s_pl 0) ?_ {HX.out.wf with tok:=rfl,fpl:=rfl} rfl⟩,?_,by have:=Qfd t (σ.ch,{σ with ts:=none,pl:=0});omega,by rw[←HST.out];exact HGR.out,?_⟩
   ·exact((Ext.refl _ _).set (.inl hblo) _).set (.inl hblo) _
   ·exact(HF1.out.set _ _).set _ _
   ·exact Qag (Qag HK1.out hrkb _) hrkb _
end Go.Proofs.Pg
