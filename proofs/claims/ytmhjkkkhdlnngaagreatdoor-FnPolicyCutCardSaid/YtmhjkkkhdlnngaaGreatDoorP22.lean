/- FnPolicyCut, part 22. -/
import Derived.Test.YtmhjkkkhdlnngaaGreatDoorP18
import Derived.Lib.RuneBytes
import Derived.Laws.IdiomStrings
set_option linter.all false
set_option maxRecDepth 100000
set_option maxHeartbeats 0
namespace Go.Proofs.Pg
open Go.RowKit Go.Proofs.Tryz
attribute [local go_sem] Oper.semAt_some
variable {t:List UInt8}{r:Rdr}{lo b:Nat}{σ:Sc}{w w':World}
def remW(n b:Nat)(w:World):Nat:=match w.cell? ⟨b,1026,none⟩,w.cell? ⟨b,1028,none⟩with
 | some (.int _ e),some (.int _ o)=>n-(o+e).toNat
 | _,_=>0
def muW(n b:Nat)(s:Value)(w:World):Nat:=match s with
 | .int _ c=>if c=-1 then 0 else remW n b w+1
 | _=>0
theorem SW.rem(h:SW t r lo b σ w):remW t.length b w=rem t σ:=by
 obtain⟨F,tb,off,pos,en,X⟩:=h;unfold remW Pg.rem;rw[X.sn.c_pos,X.sn.c_off,X.wf.fpos,X.wf.foff];show t.length-((off:Int)+(pos:Int)).toNat=_;have:=X.wf.hp;omega
theorem SW.mu(h:SW t r lo b σ w)(k:IntKind)(c:Int):muW t.length b (.int k c) w=mu t (c,σ):=by
 unfold muW Pg.mu;rw[←h.rem]
def ChP(t:List UInt8)(r:Rdr)(lo b:Nat)(res:Cs)(w:World)(e:Ending)(w':World):Prop :=
 e=.returned (.int .i32 res.1)∧SW t r lo b res.2 w'∧Fr r.rb b lo w w'
theorem QaX(h:SW t r lo b σ w):Calls prog 121 #[.pointer (some ⟨b,0,none⟩)] w (ChP t r lo b (nxt t σ) w):=next_c h
theorem QcA(h:SW t r lo b σ w)(m:ByteArray):Calls prog 160 #[.pointer (some ⟨b,0,none⟩),.string m] w fun e w'=>e=.returned (.tuple #[])∧SW t r lo b {σ with er:=true} w'∧Fr r.rb b lo w w':=by
 obtain⟨F,tb,off,pos,en,X⟩:=h;refine(Qec X.sn m X.hlo).mono ?_;rintro e w'⟨rfl,⟨x,T,p,hS⟩,hE⟩;refine⟨rfl,⟨_,_,_,_,_,X.moveE hS (Qc8 hE X.sn.hlo) {X.wf with er0:=(fun h=>by cases h),er1:=(fun _=>⟨_,_,rfl⟩)} rfl (fun _=>⟨_,_,rfl,p.2.mono (Nat.le_of_lt X.law.hrb)⟩)⟩,Fr.of_b hE⟩
theorem Qef(t:List UInt8)(σ:Sc):mu t (nxt t σ)<t.length+2:=by
 have:=Qbk t σ;have:rem t σ≤t.length:=by unfold Pg.rem;omega
 omega
def Qcp(t:List UInt8)(r:Rdr)(lo b:Nat)(loop:Nat→Cs→Cs)(w:World)(Res:Cs)(s:Value)(wr:World):Prop :=
 ∃(f:Nat)(c:Int)(σ':Sc),s=.int .i32 c∧SW t r lo b σ' wr∧Fr r.rb b lo w wr∧mu t (c,σ')<f∧loop f (c,σ')=Res
theorem scanId_c(h:SW t r lo b σ w):Calls prog 125 #[.pointer (some ⟨b,0,none⟩)] w (ChP t r lo b (Qc3 t σ) w):=by
 go_enter func125,ntmps125
 go_wp2_with fail
 refine(QaX h).mono ?_;rintro e w1⟨rfl,h1,F1⟩;have HR:Hid (Qcp t r lo b (idL t) w (Qc3 t σ) (.int .i32 (nxt t σ).1) w1):=Hi ⟨t.length+2,(nxt t σ).1,(nxt t σ).2,rfl,h1,F1,Qef t σ,rfl⟩;clear h h1 F1;generalize (nxt t σ).1=c0 at *;generalize Qc3 t σ=Res at *
 go_wp2_with fail
 go_loopw [3] (fun s wr=>Qcp t r lo b (idL t) w Res s wr) (fun s wr=>muW t.length b s wr)
 case atStart=>exact HR.out
 case round =>
  clear HR;obtain⟨f,c,σ',rfl,h1,F1,hm,hres⟩:=hrel;cases f with
  | zero=>exact absurd hm (Nat.not_lt_zero _)
  | succ f =>
   have HF:=Hi F1;clear F1;have HMU:=Hi (h1.mu .i32 c);have HM:=Hi hm;clear hm;have HS:=Hi h1;clear h1;cases hc:isId c false with
   | true =>
    have HC:=Hi hc;have HE:Hid (idL t f (nxt t σ')=Res):=Hi (by rw[←hres,idL];simp[hc]);clear hres;have HI:Hid (∀w,Calls prog 124 #[.int .i32 c,.bool false] w fun e w'=>e=.returned (.bool true)∧w'=w):=Hi (by have:=id_c c false;rw[hc]at this;exact this);clear hc
    go_wp2_with(go_at_call 124;(with_reducible refine(HI.out _).mono ?_);rintro e w' ⟨rfl,rfl⟩)
    refine(QaX HS.out).mono ?_;rintro e w2⟨rfl,h2,F2⟩;have HS2:=Hi h2;clear h2;have HF2:=Hi F2;clear F2
    go_wp2_with fail
    have hne:c≠-1:=by rintro rfl;exact absurd HC.out (by decide)
    have hmm:=Qbk t σ';have hm1:=HM.out;rw[Qbc hne]at hm1;refine⟨⟨f,_,_,rfl,HS2.out,HF.out.trans HF2.out,by show mu t (nxt t σ')<f;omega,HE.out⟩,?_⟩;rw[HMU.out,Qbc hne,HS2.out.mu];show mu t (nxt t σ')<_;omega
   | false =>
    have HE:Hid ((c,σ')=Res):=Hi (by rw[←hres,idL];simp[hc]);clear hres;have HI:Hid (∀w,Calls prog 124 #[.int .i32 c,.bool false] w fun e w'=>e=.returned (.bool false)∧w'=w):=Hi (by have:=id_c c false;rw[hc]at this;exact this);clear hc
    go_wp2_with(go_at_call 124;(with_reducible refine(HI.out _).mono ?_);rintro e w' ⟨rfl,rfl⟩)
    go_ret;rw[←HE.out];exact⟨rfl,HS.out,HF.out⟩
variable {t:List UInt8}{r:Rdr}{lo b:Nat}{σ:Sc}{w w':World}
theorem Qfd(t:List UInt8)(s:Cs):mu t s<t.length+2:=by
 have:rem t s.2≤t.length:=by unfold Pg.rem;omega
 unfold mu;split<;>omega
theorem Qhn(c0:Int)(h:SW t r lo b σ w):Calls prog 127 #[.pointer (some ⟨b,0,none⟩),.int .i32 c0] w (ChP t r lo b (QbN t (c0,σ)) w):=by
 have HR:Hid (Qcp t r lo b (numL t) w (QbN t (c0,σ)) (.int .i32 c0) w):=Hi ⟨t.length+2,c0,σ,rfl,h,Fr.refl _ _ _ _,Qfd _ _,rfl⟩;clear h;generalize QbN t (c0,σ)=Res at *;go_enter func127,ntmps127
 go_wp2_with fail
 go_loopw [1] (fun s wr=>Qcp t r lo b (numL t) w Res s wr) (fun s wr=>muW t.length b s wr)
 case atStart=>exact HR.out
 case round =>
  clear HR;obtain⟨f,c,σ',rfl,h1,F1,hm,hres⟩:=hrel;cases f with
  | zero=>exact absurd hm (Nat.not_lt_zero _)
  | succ f =>
   have HF:=Hi F1;clear F1;have HMU:=Hi (h1.mu .i32 c);have HM:=Hi hm;clear hm;have HS:=Hi h1;clear h1;cases hc:QaZ c
   ·have HE:Hid ((c,σ')=Res):=Hi (by rw[←hres,numL];simp[hc])
    have HI:Hid (∀w,Calls prog 126 #[.int .i32 c] w fun e w'=>e=.returned (.bool false)∧w'=w):=Hi (by have:=Qhj c;rw[hc]at this;exact this);clear hc;clear hres
    go_wp2_with(go_at_call 126;(with_reducible refine(HI.out _).mono ?_);rintro e w' ⟨rfl,rfl⟩)
    go_ret;rw[←HE.out];exact⟨rfl,HS.out,HF.out⟩
   ·have HE:Hid (numL t f (nxt t σ')=Res):=Hi (by rw[←hres,numL];simp[hc])
    have HC:=Hi hc;have HI:Hid (∀w,Calls prog 126 #[.int .i32 c] w fun e w'=>e=.returned (.bool true)∧w'=w):=Hi (by have:=Qhj c;rw[hc]at this;exact this);clear hc;clear hres
    go_wp2_with(go_at_call 126;(with_reducible refine(HI.out _).mono ?_);rintro e w' ⟨rfl,rfl⟩)
    refine(QaX HS.out).mono ?_;rintro e w2⟨rfl,h2,F2⟩;have HS2:=Hi h2;clear h2;have HF2:=Hi F2;clear F2
    go_wp2_with fail
    have hne:c≠-1:=by rintro rfl;exact absurd HC.out (by decide)
    have hmm:=Qbk t σ';have hm1:=HM.out;rw[Qbc hne]at hm1;refine⟨⟨f,_,_,rfl,HS2.out,HF.out.trans HF2.out,by show mu t (nxt t σ')<f;omega,HE.out⟩,?_⟩;rw[HMU.out,Qbc hne,HS2.out.mu];show mu t (nxt t σ')<_;omega
theorem Qgd(h:SW t r lo b σ w):Calls prog 129 #[.pointer (some ⟨b,0,none⟩),.int .i32 47] w (ChP t r lo b (QaT t (47,σ)) w):=by
 go_enter func129,ntmps129
 go_wp2_with fail
 refine(QaX h).mono ?_;rintro e w1⟨rfl,h1,F1⟩;have HR:Hid (Qcp t r lo b (lineL t) w (QaT t (47,σ)) (.int .i32 (nxt t σ).1) w1):=Hi ⟨t.length+2,(nxt t σ).1,(nxt t σ).2,rfl,h1,F1,Qef t σ,by unfold QaT;rw[if_pos rfl]⟩;clear h h1 F1;generalize (nxt t σ).1=c0 at *;generalize QaT t (47,σ)=Res at *
 go_wp2_with fail
 go_loopw [1] (fun s wr=>Qcp t r lo b (lineL t) w Res s wr) (fun s wr=>muW t.length b s wr)
 case atStart=>exact HR.out
 case round =>
  clear HR;obtain⟨f,c,σ',rfl,h1,F1,hm,hres⟩:=hrel;cases f with
  | zero=>exact absurd hm (Nat.not_lt_zero _)
  | succ f =>
   have HF:=Hi F1;clear F1;have HMU:=Hi (h1.mu .i32 c);have HM:=Hi hm;clear hm;have HS:=Hi h1;clear h1;by_cases h10:c=10
   ·have HE:Hid ((c,σ')=Res):=Hi (by rw[←hres,lineL];simp[h10])
    have hq:=congrArg (fun z:Int=>z==10) h10;simp only[beq_self_eq_true]at hq;subst h10;clear hq;clear hres
    go_wp2_with(fail)
    go_ret;rw[←HE.out];exact⟨rfl,HS.out,HF.out⟩
   have hb:(c==10)=false:=by simpa using h10
   have hb2:(c != 10)=true:=by simpa using h10
   by_cases h0:0≤c
   ·have HE:Hid (lineL t f (nxt t σ')=Res):=Hi (by rw[←hres,lineL];simp[h10,h0])
    have HC:=Hi h0;clear hres
    go_wp2_with(fail)
    refine(QaX HS.out).mono ?_;rintro e w2⟨rfl,h2,F2⟩;have HS2:=Hi h2;clear h2;have HF2:=Hi F2;clear F2
    go_wp2_with fail
    have hne:c≠-1:=by rintro rfl;exact absurd HC.out (by decide)
    have hmm:=Qbk t σ';have hm1:=HM.out;rw[Qbc hne]at hm1;refine⟨⟨f,_,_,rfl,HS2.out,HF.out.trans HF2.out,by show mu t (nxt t σ')<f;omega,HE.out⟩,?_⟩;rw[HMU.out,Qbc hne,HS2.out.mu];show mu t (nxt t σ')<_;omega
   ·have HE:Hid ((c,σ')=Res):=Hi (by rw[←hres,lineL];simp[h0])
    have h0':c<0:=by omega
    clear hres
    go_wp2_with(fail)
    go_ret;rw[←HE.out];exact⟨rfl,HS.out,HF.out⟩
variable {t:List UInt8}{r:Rdr}{lo b:Nat}{σ:Sc}{w w':World}
theorem Qho(c:Int)(w:World):Calls prog 214 #[.int .i32 c] w fun e w'=>e=.returned (.int .i32 (Qc9 c))∧w'=w:=by
 go_enter func214,ntmps214;go_wp2;go_ret;exact⟨rfl,rfl⟩
theorem Qhp(c:Int)(w:World):Calls prog 199 #[.int .i32 c] w fun e w'=>e=.returned (.bool (Qc1 c))∧w'=w:=by
 have HI:=Hi (show Qc1 c=(QaZ c||(decide (97≤Qc9 c)&&decide (Qc9 c≤102)))from rfl);have HL:Hid (∀w,Calls prog 214 #[.int .i32 c] w fun e w'=>e=.returned (.int .i32 (Qc9 c))∧w'=w):=Hi (Qho c);have HN:Hid (∀w,Calls prog 126 #[.int .i32 c] w fun e w'=>e=.returned (.bool (QaZ c))∧w'=w):=Hi (Qhj c);generalize Qc1 c=B at *;generalize QaZ c=N at *;generalize Qc9 c=L at *;cases N
 ·by_cases h1:97≤L
  all_goals by_cases h2:L≤102
  all_goals
   go_enter func199,ntmps199
   go_wp2_with(first | (go_at_call 214;refine(HL.out _).mono ?_;rintro e w' ⟨rfl,rfl⟩) | (go_at_call 126;refine(HN.out _).mono ?_;rintro e w' ⟨rfl,rfl⟩))
   all_goals(go_ret;exact⟨by rw[HI.out];simp_all,rfl⟩)
 ·go_enter func199,ntmps199
  go_wp2_with(first | (go_at_call 214;refine(HL.out _).mono ?_;rintro e w' ⟨rfl,rfl⟩) | (go_at_call 126;refine(HN.out _).mono ?_;rintro e w' ⟨rfl,rfl⟩))
  go_ret;exact⟨by rw[HI.out];simp_all,rfl⟩
def HxRel(t:List UInt8)(r:Rdr)(lo b mx:Nat)(w:World)(Res:Nat×Cs)(s1 s9:Value)(wr:World):Prop :=
 ∃(f n:Nat)(c:Int)(σ':Sc),s1=.int .i32 c∧s9=.int .i64 n∧n+f=mx∧SW t r lo b σ' wr∧Fr r.rb b lo w wr∧hexL t f n (c,σ')=Res
def natOf:Value→Nat
 | .int _ n=>n.toNat
 | _=>0
theorem Qe3(c0:Int)(mn mx:Nat)(hmx:mx≤10)(hmn:mn≤mx)(h:SW t r lo b σ w):Calls prog 183 #[.pointer (some ⟨b,0,none⟩),.int .i32 c0,.int .i64 mn,.int .i64 mx] w (ChP t r lo b (Qbj t mn mx (c0,σ)) w):=by
 have HR:Hid (HxRel t r lo b mx w (hexL t mx 0 (c0,σ)) (.int .i32 c0) (.int .i64 0) w):=Hi ⟨mx,0,c0,σ,rfl,rfl,by omega,h,Fr.refl _ _ _ _,rfl⟩;have HRES:Hid (Qbj t mn mx (c0,σ)=if(hexL t mx 0 (c0,σ)).1<mn then err (hexL t mx 0 (c0,σ)).2 else(hexL t mx 0 (c0,σ)).2):=Hi rfl;clear h;generalize Qbj t mn mx (c0,σ)=Out at *;generalize hexL t mx 0 (c0,σ)=Res at *;have g1:(mx:Int)≤10:=by omega
 go_enter func183,ntmps183
 go_wp2_with fail
 go_loopw [1,9] (fun s1 s9 wr=>HxRel t r lo b mx w Res s1 s9 wr) (fun _ s9 _=>mx-natOf s9)
 case atStart=>exact HR.out
 case round =>
  clear HR;obtain⟨f,n,c,σ',rfl,rfl,hnf,h1,F1,hres⟩:=hrel;have HF:=Hi F1;clear F1;have HS:=Hi h1;clear h1;have HNF:=Hi hnf;cases f with
  | zero =>
   obtain rfl:n=mx:=by omega
   have HE:Hid ((n,(c,σ'))=Res):=Hi (by rw[←hres,hexL]);clear hres hnf;have g2:¬(n:Int)<(n:Int):=by omega
   have g3:¬(n:Int)<(mn:Int):=by omega
   have g4:decide ((n:Int)<(n:Int))=false:=decide_eq_false (by omega);have g5:decide ((n:Int)<(mn:Int))=false:=decide_eq_false (by omega);have g6:decide (n<n)=false:=decide_eq_false (by omega);have g7:decide (n<mn)=false:=decide_eq_false (by omega)
   go_wp2_with fail
   go_ret;rw[HRES.out,←HE.out,if_neg (show ¬n<mn by omega)];exact⟨rfl,HS.out,HF.out⟩
  | succ f =>
   have g2:(n:Int)<(mx:Int):=by omega
   have g2':n<mx:=by omega
   have g4:decide ((n:Int)<(mx:Int))=true:=decide_eq_true g2;have g6:decide (n<mx)=true:=decide_eq_true g2';have g8:(n:Int)≤10:=by omega
   cases hc:Qc1 c with
   | true =>
    have HE:Hid (hexL t f (n+1) (nxt t σ')=Res):=Hi (by rw[←hres,hexL];simp[hc]);have HI:Hid (∀w,Calls prog 199 #[.int .i32 c] w fun e w'=>e=.returned (.bool true)∧w'=w):=Hi (by have:=Qhp c;rw[hc]at this;exact this);clear hres hc hnf
    go_wp2_with(go_at_call 199;(with_reducible refine(HI.out _).mono ?_);rintro e w' ⟨rfl,rfl⟩)
    refine(QaX HS.out).mono ?_;rintro e w2⟨rfl,h2,F2⟩;have HS2:=Hi h2;clear h2;have HF2:=Hi F2;clear F2
    go_wp2_with fail
    refine⟨⟨f,n+1,_,_,rfl,by push_cast;rfl,by have:=HNF.out;omega,HS2.out,HF.out.trans HF2.out,HE.out⟩,?_⟩;have:=HNF.out;simp only[natOf];omega
   | false =>
    have HE:Hid ((n,(c,σ'))=Res):=Hi (by rw[←hres,hexL];simp[hc]);have HI:Hid (∀w,Calls prog 199 #[.int .i32 c] w fun e w'=>e=.returned (.bool false)∧w'=w):=Hi (by have:=Qhp c;rw[hc]at this;exact this);clear hres hc hnf;have g3:decide ((mx:Int)<(n:Int))=false:=decide_eq_false (by omega);have g7:decide (mx<n)=false:=decide_eq_false (by omega);by_cases hm:n<mn
    ·have g5:decide ((n:Int)<(mn:Int))=true:=decide_eq_true (by omega)
     have g9:decide (n<mn)=true:=decide_eq_true hm
     go_wp2_with(go_at_call 199;(with_reducible refine(HI.out _).mono ?_);rintro e w' ⟨rfl,rfl⟩)
     refine(QcA HS.out _).mono ?_;rintro e w2⟨rfl,h2,F2⟩;have HS2:=Hi h2;clear h2;have HF2:=Hi F2;clear F2
     go_wp2_with fail
     go_ret;rw[HRES.out,←HE.out,if_pos hm];exact⟨rfl,HS2.out,HF.out.trans HF2.out⟩
    ·have g5:decide ((n:Int)<(mn:Int))=false:=decide_eq_false (by omega)
     have g9:decide (n<mn)=false:=decide_eq_false hm
     go_wp2_with(go_at_call 199;(with_reducible refine(HI.out _).mono ?_);rintro e w' ⟨rfl,rfl⟩)
     go_ret;rw[HRES.out,←HE.out,if_neg hm];exact⟨rfl,HS.out,HF.out⟩
theorem BytesAt.drop{w:World}{b off:Nat}{l:List UInt8}(h:BytesAt w b off l)(i:Nat):BytesAt w b (off+i) (l.drop i):=by
 intro j hj;rw[List.length_drop]at hj;have:=h (i+j) (by omega);rw[QbA,Nat.add_assoc];exact this
def nrM(l:List UInt8)(i:Nat):Option (Nat×Nat):=if(dec (l.drop i)).1=65533 then none else some ((dec (l.drop i)).1,i+(dec (l.drop i)).2)
def NrP(eb:Nat)(w:World)(i:Nat)(R:Option (Nat×Nat))(e:Ending)(w':World):Prop :=
 Below w.heap.size w w'∧match R with
 | none=>∃T,∃x:EVal eb w' T,e=.returned (.tuple #[.int .i32 65533,.int .i64 i,.iface T x.1])
 | some r=>e=.returned (.tuple #[.int .i32 r.1,.int .i64 r.2,.nilIface])
theorem Qgk(l:List UInt8)(b off cap i:Nat)(w:World)(hT:Lib.Utf8Tabs 1 2 w)(hc:BytesAt w b off l)(hb:b<w.heap.size)(hlen:l.length≤1000000)(hi:i<l.length)(hcap:l.length≤cap)(hcm:cap≤maxLen){eb:Nat}(heb:eb≤w.heap.size) :
  Calls prog 187 #[.slice (some ⟨b,off,none⟩) l.length cap,.int .i64 i] w (NrP eb w i (nrM l i)):=by
 have HBS:=Hi heb;clear heb;have HC:=Hi (hc.drop i);clear hc;have HD:=Hi (show(l.drop i).length=l.length-i from List.length_drop);have g1:¬cap=i:=by omega
 go_enter func187,ntmps187;have hne:l.drop i≠[]:=fun e=>by have:=HD.out;rw[e]at this;simp at this;omega
 have hd:=Qdu (l.drop i) b (off+i) (cap-i) w hT HC.out hb (by rw[HD.out];omega);rw[HD.out]at hd;obtain⟨k1,k2,k3⟩:=Qco hne;have k4:=Qed (l.drop i);have HN:Hid (nrM l i=if(dec (l.drop i)).1=65533 then none else some ((dec (l.drop i)).1,i+(dec (l.drop i)).2)):=Hi rfl;have HDD:=Hi hd;clear hd;generalize dec (l.drop i)=de at *;obtain⟨r,z⟩:=de;simp only at k1 k2 k3 k4;have k5:z≤l.length-i:=by have:=HD.out;omega
 clear k2
 go_wp2_with fail
 refine HDD.out.mono ?_;rintro e w1⟨rfl,B1⟩;have HB1:=Hi B1;clear B1;by_cases hr:r=65533
 ·subst hr
  go_wp2_with fail
  refine(QaV _ w1 (by first | exact Xe HBS.out HB4.out.size | exact Xe HBS.out HB3.out.size | exact Xe HBS.out HB2.out.size | exact Xe HBS.out HB1.out.size | exact Xe HBS.out HB.out.size)).mono ?_;rintro e w2⟨T,x,rfl,B2⟩;have HB2:=Hi B2;clear B2
  go_wp2_with fail
  refine bodyPost_ret (results_tmp3 (t:=4) (u:=5) (v:=6) (by kernel_rfl) _ _ _) rfl ?_;rw[HN.out];exact⟨HB1.out.trans (HB2.out.mono HB1.out.size),T,x,rfl⟩
 ·have e1:((r:Int)==65533)=false:=by simp;omega
  have e2:¬(r:Int)=65533:=by omega
  have HR:=Hi hr;clear hr
  go_wp2_with fail
  refine bodyPost_ret (results_tmp3 (t:=4) (u:=5) (v:=6) (by kernel_rfl) _ _ _) rfl ?_;rw[HN.out,if_neg HR.out];refine⟨HB1.out,?_⟩;simp only[Int.natCast_add];rfl
theorem QeA(n:Nat)(b off cap:Nat)(w:World)(hT:Lib.Utf8Tabs 1 2 w)(hb:b<w.heap.size)(hlen:n≤1000000)(hcap:n≤cap)(hcm:cap≤maxLen){eb:Nat}(heb:eb≤w.heap.size) :
  Calls prog 187 #[.slice (some ⟨b,off,none⟩) n cap,.int .i64 n] w (NrP eb w n none):=by
 have HBS:=Hi heb;clear heb;have hd:∀o c,Calls prog 161 #[.slice (some ⟨b,o,none⟩) 0 c] w fun e w'=>e=.returned (.tuple #[.int .i32 65533,.int .i64 0])∧Below w.heap.size w w':=fun o c=>Qdu [] b o c w hT (fun j hj=>absurd hj (Nat.not_lt_zero _)) hb (Nat.zero_le _)
 have HD:=Hi hd;clear hd;by_cases g1:cap=n
 ·go_enter func187,ntmps187
  go_wp2_with fail
  refine(HD.out _ _).mono ?_;rintro e w1⟨rfl,B1⟩;have HB1:=Hi B1;clear B1
  go_wp2_with fail
  refine(QaV _ w1 (by first | exact Xe HBS.out HB4.out.size | exact Xe HBS.out HB3.out.size | exact Xe HBS.out HB2.out.size | exact Xe HBS.out HB1.out.size | exact Xe HBS.out HB.out.size)).mono ?_;rintro e w2⟨T,x,rfl,B2⟩;have HB2:=Hi B2;clear B2
  go_wp2_with fail
  refine bodyPost_ret (results_tmp3 (t:=4) (u:=5) (v:=6) (by kernel_rfl) _ _ _) rfl ?_;exact⟨HB1.out.trans (HB2.out.mono HB1.out.size),T,x,rfl⟩
 ·go_enter func187,ntmps187
  go_wp2_with fail
  refine(HD.out _ _).mono ?_;rintro e w1⟨rfl,B1⟩;have HB1:=Hi B1;clear B1
  go_wp2_with fail
  refine(QaV _ w1 (by first | exact Xe HBS.out HB4.out.size | exact Xe HBS.out HB3.out.size | exact Xe HBS.out HB2.out.size | exact Xe HBS.out HB1.out.size | exact Xe HBS.out HB.out.size)).mono ?_;rintro e w2⟨T,x,rfl,B2⟩;have HB2:=Hi B2;clear B2
  go_wp2_with fail
  refine bodyPost_ret (results_tmp3 (t:=4) (u:=5) (v:=6) (by kernel_rfl) _ _ _) rfl ?_;exact⟨HB1.out.trans (HB2.out.mono HB1.out.size),T,x,rfl⟩
def digV(c:Int):Int:=if 48≤c∧c≤57 then c-48 else if 97≤Qc9 c∧Qc9 c≤102 then Qc9 c-87 else 16
theorem Qfj(c:Int)(w:World):Calls prog 204 #[.int .i32 c] w fun e w'=>e=.returned (.int .i64 (digV c))∧w'=w:=by
 have HI:=Hi (show digV c=(if 48≤c∧c≤57 then c-48 else if 97≤Qc9 c∧Qc9 c≤102 then Qc9 c-87 else 16)from rfl);have HL:Hid (∀w,Calls prog 214 #[.int .i32 c] w fun e w'=>e=.returned (.int .i32 (Qc9 c))∧w'=w):=Hi (Qho c);generalize digV c=B at *;generalize Qc9 c=L at *;by_cases h1:48≤c
 all_goals by_cases h2:c≤57
 all_goals by_cases h3:97≤L
 all_goals by_cases h4:L≤102
 all_goals
  go_enter func204,ntmps204
  go_wp2_with(go_at_call 214;refine(HL.out _).mono ?_;rintro e w' ⟨rfl,rfl⟩)
  all_goals
   go_ret;refine⟨?_,rfl⟩;rw[HI.out];show Ending.returned (Value.int IntKind.i64 _)=Ending.returned (Value.int IntKind.i64 _)
   congr 2
   first
    | (rw[if_pos ⟨by omega,by omega⟩];done)
    | (rw[if_neg (by omega),if_pos ⟨by omega,by omega⟩];omega)
    | (rw[if_neg (by omega),if_neg (by omega)];done)
def nrX(l:List UInt8)(i:Nat):Option (Nat×Nat):=if i<l.length then nrM l i else none
theorem QbK(l:List UInt8)(b off cap i:Nat)(w:World)(hT:Lib.Utf8Tabs 1 2 w)(hc:BytesAt w b off l)(hb:b<w.heap.size)(hlen:l.length≤1000000)(hi:i≤l.length)(hcap:l.length≤cap)(hcm:cap≤maxLen){eb:Nat}(heb:eb≤w.heap.size) :
  Calls prog 187 #[.slice (some ⟨b,off,none⟩) l.length cap,.int .i64 i] w (NrP eb w i (nrX l i)):=by
 unfold nrX;by_cases h:i<l.length
 ·rw[if_pos h]
  exact Qgk l b off cap i w hT hc hb hlen h hcap hcm heb
 ·rw[if_neg h,show i=l.length by omega]
  exact QeA l.length b off cap w hT hb hlen hcap hcm heb
theorem QbF{l:List UInt8}{i:Nat}{r:Nat×Nat}(h:nrX l i=some r):i<r.2∧r.2≤l.length∧r.1<2097152:=by
 unfold nrX at h;split at h
 ·rename_i hi
  unfold nrM at h;split at h
  ·cases h
  ·cases h
   have hne:l.drop i≠[]:=fun e=>by have:=congrArg List.length e;simp at this;omega
   obtain⟨k1,k2,k3⟩:=Qco hne;rw[List.length_drop]at k2;have:=Qed (l.drop i);simp only;omega
 ·cases h
def hexE(l:List UInt8)(i:Nat):Option (Int×Nat):=match nrX l i with
 | none=>none
 | some a=>if Qc1 a.1=true then(match nrX l a.2 with
  | none=>none
  | some b=>if Qc1 b.1=true then(if 127<16*digV a.1+digV b.1 then none else some (16*digV a.1+digV b.1,b.2))else none)else none
def EscP(eb:Nat)(w:World)(R:Option (Int×Nat))(e:Ending)(w':World):Prop :=
 Below w.heap.size w w'∧match R with
 | none=>∃v i T,∃x:EVal eb w' T,e=.returned (.tuple #[v,i,.iface T x.1])
 | some r=>e=.returned (.tuple #[.int .i32 r.1,.int .i64 r.2,.nilIface])
theorem Qd5(c:Int):0≤digV c∧digV c≤16:=by
 unfold digV;split
 ·omega
 ·split<;>omega
theorem QfB(l:List UInt8)(b off cap i:Nat)(w:World)(hT:Lib.Utf8Tabs 1 2 w)(hc:BytesAt w b off l)(hb:2<b∧b<w.heap.size)(hlen:l.length≤1000000)(hi:i≤l.length)(hcap:l.length≤cap)(hcm:cap≤maxLen){eb:Nat}(heb:eb≤w.heap.size) :
  Calls prog 190 #[.slice (some ⟨b,off,none⟩) l.length cap,.int .i64 i] w (EscP eb w (hexE l i)):=by
 have HBS:=Hi heb;have HN:Hid (∀w',Below w.heap.size w w'→∀j,j≤l.length→Calls prog 187 #[.slice (some ⟨b,off,none⟩) l.length cap,.int .i64 j] w' (NrP eb w' j (nrX l j))):=Hi fun w' hB j hj=>QbK l b off cap j w' (Qbg hT (Ext.below (S:=fun _=>False) hB) (fun h=>h) (fun h=>h)) (fun k hk=>(Ext.below (S:=fun _=>False) hB).cell (p:=⟨b,off+k,none⟩) (fun h=>h) (hc k hk)) (Nat.lt_of_lt_of_le hb.2 hB.size) hlen hj hcap hcm (Xe heb hB.size)
 have HM:Hid (hexE l i=match nrX l i with
  | none=>none
  | some a=>if Qc1 a.1=true then(match nrX l a.2 with
   | none=>none
   | some b=>if Qc1 b.1=true then(if 127<16*digV a.1+digV b.1 then none else some (16*digV a.1+digV b.1,b.2))else none)else none):=Hi rfl
 generalize hexE l i=Res at *;clear hT hc hb heb;go_enter func190,ntmps190
 go_wp2_with fail
 refine(HN.out w (Below.refl _ _) i hi).mono ?_;rintro e w1⟨B1,h1⟩;have HB1:=Hi B1;clear B1;cases hn1:nrX l i with
 | none =>
  rw[hn1]at h1;have HR:Hid (Res=none):=Hi (by rw[HM.out,hn1]);obtain⟨T,x,rfl⟩:=h1;clear hn1
  go_wp2_with fail
  refine bodyPost_ret (results_tmp3 (t:=4) (u:=5) (v:=6) (by kernel_rfl) _ _ _) rfl ?_;rw[HR.out];exact⟨HB1.out,_,_,_,_,rfl⟩
 | some a =>
  rw[hn1]at h1;subst h1;have ha:=QbF hn1;have HN1:=Hi hn1;clear hn1;obtain⟨a1,a2⟩:=a;simp only at ha
  go_wp2_with fail
  refine(Qhp _ w1).mono ?_;rintro e w1'⟨rfl,rfl⟩;cases hx1:Qc1 a1 with
  | false =>
   have HR:Hid (Res=none):=Hi (by rw[HM.out,HN1.out];simp only;rw[if_neg (by rw[hx1];decide)]);clear hx1
   go_wp2_with fail
   refine(QaV _ w1' (by first | exact Xe HBS.out HB4.out.size | exact Xe HBS.out HB3.out.size | exact Xe HBS.out HB2.out.size | exact Xe HBS.out HB1.out.size | exact Xe HBS.out HB.out.size)).mono ?_;rintro e w2⟨T,x,rfl,B2⟩;have HB2:=Hi B2;clear B2
   go_wp2_with fail
   refine bodyPost_ret (results_tmp3 (t:=4) (u:=5) (v:=6) (by kernel_rfl) _ _ _) rfl ?_;rw[HR.out];exact⟨HB1.out.trans (HB2.out.mono HB1.out.size),_,_,_,_,rfl⟩
  | true =>
   have HX1:=Hi hx1;clear hx1
   go_wp2_with fail
   refine(Qfj _ w1').mono ?_;rintro e w2⟨rfl,rfl⟩;have hd1:=Qd5 a1
   go_wp2_with fail
   refine(HN.out w2 HB1.out a2 ha.2.1).mono ?_;rintro e w3⟨B3,h3⟩;have HB3:Hid (Below w.heap.size w w3):=Hi (HB1.out.trans (B3.mono HB1.out.size));clear B3;cases hn2:nrX l a2 with
   | none =>
    rw[hn2]at h3;have HR:Hid (Res=none):=Hi (by rw[HM.out,HN1.out];simp only;rw[if_pos HX1.out,hn2]);obtain⟨T,x,rfl⟩:=h3;clear hn2
    go_wp2_with fail
    refine bodyPost_ret (results_tmp3 (t:=4) (u:=5) (v:=6) (by kernel_rfl) _ _ _) rfl ?_;rw[HR.out];exact⟨HB3.out,_,_,_,_,rfl⟩
   | some c =>
    rw[hn2]at h3;subst h3;obtain⟨c1,c2⟩:=c;have HR1:Hid (Res=if Qc1 c1=true then(if 127<16*digV a1+digV c1 then none else some (16*digV a1+digV c1,c2))else none):=Hi (by rw[HM.out,HN1.out];simp only;rw[if_pos HX1.out,hn2]);clear hn2
    go_wp2_with fail
    refine(Qhp _ w3).mono ?_;rintro e w3'⟨rfl,rfl⟩;cases hx2:Qc1 c1 with
    | false =>
     have HR:Hid (Res=none):=Hi (by rw[HR1.out,if_neg (by rw[hx2];decide)]);clear hx2
     go_wp2_with fail
     refine(QaV _ w3' (by first | exact Xe HBS.out HB4.out.size | exact Xe HBS.out HB3.out.size | exact Xe HBS.out HB2.out.size | exact Xe HBS.out HB1.out.size | exact Xe HBS.out HB.out.size)).mono ?_;rintro e w4⟨T,x,rfl,B2⟩;have HB2:=Hi B2;clear B2
     go_wp2_with fail
     refine bodyPost_ret (results_tmp3 (t:=4) (u:=5) (v:=6) (by kernel_rfl) _ _ _) rfl ?_;rw[HR.out];exact⟨HB3.out.trans (HB2.out.mono HB3.out.size),_,_,_,_,rfl⟩
    | true =>
     have HX2:=Hi hx2;clear hx2
     go_wp2_with fail
     refine(Qfj _ w3').mono ?_;rintro e w4⟨rfl,rfl⟩;have hd2:=Qd5 c1;have HR2:Hid (Res=if 127<16*digV a1+digV c1 then none else some (16*digV a1+digV c1,c2)):=Hi (by rw[HR1.out,if_pos HX2.out]);generalize digV a1=p1 at *;generalize digV c1=p2 at *;by_cases hbig:127<16*p1+p2
     ·have HR:Hid (Res=none):=Hi (by rw[HR2.out,if_pos hbig])
      go_wp2_with fail
      refine(QaV _ w4 (by first | exact Xe HBS.out HB4.out.size | exact Xe HBS.out HB3.out.size | exact Xe HBS.out HB2.out.size | exact Xe HBS.out HB1.out.size | exact Xe HBS.out HB.out.size)).mono ?_;rintro e w5⟨T,x,rfl,B2⟩;have HB2:=Hi B2;clear B2
      go_wp2_with fail
      refine bodyPost_ret (results_tmp3 (t:=4) (u:=5) (v:=6) (by kernel_rfl) _ _ _) rfl ?_;rw[HR.out];exact⟨HB3.out.trans (HB2.out.mono HB3.out.size),_,_,_,_,rfl⟩
     ·have HR:Hid (Res=some (16*p1+p2,c2)):=Hi (by rw[HR2.out,if_neg hbig])
      go_wp2_with fail
      refine bodyPost_ret (results_tmp3 (t:=4) (u:=5) (v:=6) (by kernel_rfl) _ _ _) rfl ?_;rw[HR.out];exact⟨HB3.out,rfl⟩
def uniL(l:List UInt8):Nat→Nat→Int→Nat→Option (Nat×Int×Nat)
 | 0,_,_,_=>none
 | f+1,k,v,i=>match nrX l i with
  | none=>none
  | some a=>if a.1=125 then some (k,v,a.2)else if Qc1 a.1=true then uniL l f (k+1) (16*v+digV a.1) a.2 else none
def uniE(l:List UInt8)(i:Nat):Option (Int×Nat):=match nrX l i with
 | none=>none
 | some a=>if a.1=123 then(match uniL l (l.length+1) 0 0 a.2 with
  | none=>none
  | some p=>if p.1=0∨6<p.1 then none else if Lib.validRune p.2.1=true then some (p.2.1,p.2.2)else none)else none
def uB:Nat→Int
 | 0=>0
 | k+1=>16*uB k+16
theorem uB_6{k:Nat}(h:k≤6):uB k≤17895696:=by
 match k,h with
 | 0,_=>decide
 | 1,_=>decide
 | 2,_=>decide
 | 3,_=>decide
 | 4,_=>decide
 | 5,_=>decide
 | 6,_=>decide
def UnRel(l:List UInt8)(Res:Option (Nat×Int×Nat))(w0:World)(s1 s9 s10:Value)(wr:World):Prop :=
 ∃f k v i u,s1=.int .i64 ((i:Nat):Int)∧s9=.int .i64 ((k:Nat):Int)∧s10=.int .i64 u∧uniL l f k v i=Res∧l.length-i<f∧i≤l.length∧k≤i∧(k≤6→u=v∧0≤v∧v≤uB k)∧Below w0.heap.size w0 wr
theorem QfC(l:List UInt8)(b off cap i:Nat)(w:World)(hT:Lib.Utf8Tabs 1 2 w)(hc:BytesAt w b off l)(hb:2<b∧b<w.heap.size)(hlen:l.length≤1000000)(hi:i≤l.length)(hcap:l.length≤cap)(hcm:cap≤maxLen){eb:Nat}(heb:eb≤w.heap.size) :
  Calls prog 191 #[.slice (some ⟨b,off,none⟩) l.length cap,.int .i64 i] w (EscP eb w (uniE l i)):=by
 have HBS:=Hi heb;have HN:Hid (∀w',Below w.heap.size w w'→∀j,j≤l.length→Calls prog 187 #[.slice (some ⟨b,off,none⟩) l.length cap,.int .i64 j] w' (NrP eb w' j (nrX l j))):=Hi fun w' hB j hj=>QbK l b off cap j w' (Qbg hT (Ext.below (S:=fun _=>False) hB) (fun h=>h) (fun h=>h)) (fun k hk=>(Ext.below (S:=fun _=>False) hB).cell (p:=⟨b,off+k,none⟩) (fun h=>h) (hc k hk)) (Nat.lt_of_lt_of_le hb.2 hB.size) hlen hj hcap hcm (Xe heb hB.size)
 have HM:Hid (uniE l i=match nrX l i with
  | none=>none
  | some a=>if a.1=123 then(match uniL l (l.length+1) 0 0 a.2 with
   | none=>none
   | some p=>if p.1=0∨6<p.1 then none else if Lib.validRune p.2.1=true then some (p.2.1,p.2.2)else none)else none):=Hi rfl
 generalize uniE l i=Res at *;clear hT hc hb heb;go_enter func191,ntmps191
 go_wp2_with fail
 refine(HN.out w (Below.refl _ _) i hi).mono ?_;rintro e w1⟨B1,h1⟩;have HB1:=Hi B1;clear B1;cases hn1:nrX l i with
 | none =>
  rw[hn1]at h1;have HR:Hid (Res=none):=Hi (by rw[HM.out,hn1]);obtain⟨T,x,rfl⟩:=h1;clear hn1
  go_wp2_with fail
  refine bodyPost_ret (results_tmp3 (t:=4) (u:=5) (v:=6) (by kernel_rfl) _ _ _) rfl ?_;rw[HR.out];exact⟨HB1.out,_,_,_,_,rfl⟩
 | some a =>
  rw[hn1]at h1;subst h1;have ha:=QbF hn1;have HN1:=Hi hn1;clear hn1;obtain⟨a1,a2⟩:=a;simp only at ha;by_cases h123:a1=123
  ·subst h123
   have HM1:Hid (Res=match uniL l (l.length+1) 0 0 a2 with
    | none=>none
    | some p=>if p.1=0∨6<p.1 then none else if Lib.validRune p.2.1=true then some (p.2.1,p.2.2)else none):=Hi (by rw[HM.out,HN1.out];simp only[if_true])
   clear HM HN1
   go_wp2_with fail
   have HQ:Hid (UnRel l (uniL l (l.length+1) 0 0 a2) w (.int .i64 a2) (.int .i64 0) (.int .i64 0) w1):=Hi ⟨l.length+1,0,0,a2,0,rfl,rfl,rfl,rfl,by omega,ha.2.1,Nat.zero_le _,fun _=>⟨rfl,Int.le_refl _,Int.le_refl _⟩,HB1.out⟩;generalize uniL l (l.length+1) 0 0 a2=Ru at *
   go_loopw [1,9,10] (fun s1 s9 s10 wr=>UnRel l Ru w s1 s9 s10 wr) (fun s1 _ _ _=>l.length-(intOf s1).toNat)
   case atStart=>exact HQ.out
   case round =>
    clear HQ;obtain⟨f,k,v,i,u,rfl,rfl,rfl,hu,hf,hil,hki,hv,hB⟩:=hrel;obtain⟨f,rfl⟩:∃g,f=g+1:=⟨f-1,by omega⟩
    rw[uniL]at hu;have HU:=Hi hu;clear hu;have HV:=Hi hv;clear hv;have HB:=Hi hB;clear hB
    go_wp2_with fail
    refine(HN.out _ HB.out i hil).mono ?_;rintro e w2⟨B2,h2⟩;have HB2:Hid (Below w.heap.size w w2):=Hi (HB.out.trans (B2.mono HB.out.size));clear B2;cases hn2:nrX l i with
    | none =>
     rw[hn2]at h2;have HR:Hid (Res=none):=Hi (by have:=HU.out;rw[hn2]at this;rw[HM1.out,←this]);obtain⟨T,x,rfl⟩:=h2;clear hn2
     go_wp2_with fail
     refine bodyPost_ret (results_tmp3 (t:=4) (u:=5) (v:=6) (by kernel_rfl) _ _ _) rfl ?_;rw[HR.out];exact⟨HB2.out,_,_,_,_,rfl⟩
    | some c =>
     rw[hn2]at h2;subst h2;have hcc:=QbF hn2;obtain⟨c1,c2⟩:=c;simp only at hcc;have HU1:Hid ((if c1=125 then some (k,v,c2)else if Qc1 c1=true then uniL l f (k+1) (16*v+digV c1) c2 else none)=Ru):=Hi (by have:=HU.out;rw[hn2]at this;exact this);clear hn2 HU;by_cases h125:c1=125
     ·subst h125
      have HU2:Hid (Res=if k=0∨6<k then none else if Lib.validRune v=true then some (v,c2)else none):=Hi (by have:=HU1.out;rw[if_pos rfl]at this;rw[HM1.out,←this]);clear HU1;by_cases hk0:k=0
      ·have HR:Hid (Res=none):=Hi (by rw[HU2.out,if_pos (.inl hk0)])
       subst hk0
       go_wp2_with fail
       refine(QaV _ w2 (by first | exact Xe HBS.out HB4.out.size | exact Xe HBS.out HB3.out.size | exact Xe HBS.out HB2.out.size | exact Xe HBS.out HB1.out.size | exact Xe HBS.out HB.out.size)).mono ?_;rintro e w3⟨T,x,rfl,B3⟩;have HB3:=Hi B3;clear B3
       go_wp2_with fail
       refine bodyPost_ret (results_tmp3 (t:=4) (u:=5) (v:=6) (by kernel_rfl) _ _ _) rfl ?_;rw[HR.out];exact⟨HB2.out.trans (HB3.out.mono HB2.out.size),_,_,_,_,rfl⟩
      ·have hkp:0<k:=by omega
       have e0:(((k:Nat):Int)==0)=false:=by simp;omega
       clear hk0;by_cases hk6:6<k
       ·have HR:Hid (Res=none):=Hi (by rw[HU2.out,if_pos (.inr hk6)])
        go_wp2_with fail
        refine(QaV _ w2 (by first | exact Xe HBS.out HB4.out.size | exact Xe HBS.out HB3.out.size | exact Xe HBS.out HB2.out.size | exact Xe HBS.out HB1.out.size | exact Xe HBS.out HB.out.size)).mono ?_;rintro e w3⟨T,x,rfl,B3⟩;have HB3:=Hi B3;clear B3
        go_wp2_with fail
        refine bodyPost_ret (results_tmp3 (t:=4) (u:=5) (v:=6) (by kernel_rfl) _ _ _) rfl ?_;rw[HR.out];exact⟨HB2.out.trans (HB3.out.mono HB2.out.size),_,_,_,_,rfl⟩
       ·obtain⟨hv1,hv2,hv3⟩:=HV.out (by omega)
        have hv4:=uB_6 (k:=k) (by omega);have hv5:v≤17895696:=by omega
        obtain rfl:=hv1;clear hv3 hv4;have HR1:Hid (Res=if Lib.validRune u=true then some (u,c2)else none):=Hi (by rw[HU2.out,if_neg (by omega)])
        go_wp2_with fail
        refine(Tryz.utf8_ValidRune u w2).mono ?_;rintro e w2'⟨rfl,rfl⟩;cases hvr:Lib.validRune u with
        | false =>
         have HR:Hid (Res=none):=Hi (by rw[HR1.out,hvr];rfl);clear hvr
         go_wp2_with fail
         refine(QaV _ w2' (by first | exact Xe HBS.out HB4.out.size | exact Xe HBS.out HB3.out.size | exact Xe HBS.out HB2.out.size | exact Xe HBS.out HB1.out.size | exact Xe HBS.out HB.out.size)).mono ?_;rintro e w3⟨T,x,rfl,B3⟩;have HB3:=Hi B3;clear B3
         go_wp2_with fail
         refine bodyPost_ret (results_tmp3 (t:=4) (u:=5) (v:=6) (by kernel_rfl) _ _ _) rfl ?_;rw[HR.out];exact⟨HB2.out.trans (HB3.out.mono HB2.out.size),_,_,_,_,rfl⟩
        | true =>
         have HR:Hid (Res=some (u,c2)):=Hi (by rw[HR1.out,hvr];rfl);clear hvr
         go_wp2_with fail
         refine bodyPost_ret (results_tmp3 (t:=4) (u:=5) (v:=6) (by kernel_rfl) _ _ _) rfl ?_;rw[HR.out];exact⟨HB2.out,rfl⟩
     ·have e1:((c1:Int)==125)=false:=by simp;omega
      have e2:¬(c1:Int)=125:=by omega
      have HU2:Hid ((if Qc1 c1=true then uniL l f (k+1) (16*v+digV c1) c2 else none)=Ru):=Hi (by have:=HU1.out;rw[if_neg h125]at this;exact this);clear HU1 h125
      go_wp2_with fail
      refine(Qhp _ w2).mono ?_;rintro e w2'⟨rfl,rfl⟩;cases hx1:Qc1 c1 with
      | false =>
       have HR:Hid (Res=none):=Hi (by have:=HU2.out;rw[hx1]at this;rw[HM1.out,←this];rfl);clear hx1
       go_wp2_with fail
       refine(QaV _ w2' (by first | exact Xe HBS.out HB4.out.size | exact Xe HBS.out HB3.out.size | exact Xe HBS.out HB2.out.size | exact Xe HBS.out HB1.out.size | exact Xe HBS.out HB.out.size)).mono ?_;rintro e w3⟨T,x,rfl,B3⟩;have HB3:=Hi B3;clear B3
       go_wp2_with fail
       refine bodyPost_ret (results_tmp3 (t:=4) (u:=5) (v:=6) (by kernel_rfl) _ _ _) rfl ?_;rw[HR.out];exact⟨HB2.out.trans (HB3.out.mono HB2.out.size),_,_,_,_,rfl⟩
      | true =>
       have HU3:Hid (uniL l f (k+1) (16*v+digV c1) c2=Ru):=Hi (by have:=HU2.out;rw[hx1,if_pos rfl]at this;exact this);clear hx1 HU2;have hd1:=Qd5 c1;have HD:Hid (∀w,Calls prog 204 #[.int .i32 ((c1:Nat):Int)] w fun e w'=>e=.returned (.int .i64 (digV c1))∧w'=w):=Hi (Qfj c1);generalize digV c1=d at *;by_cases hk6:k≤6
       ·obtain⟨hv1,hv2,hv3⟩:=HV.out hk6
        have hv4:=uB_6 hk6;have hv5:v≤17895696:=by omega
        obtain rfl:=hv1;have HK:Hid (16*u+d≤uB (k+1)):=Hi (by unfold uB;omega);clear hv3 hv4
        go_wp2_with fail
        refine(HD.out w2').mono ?_;rintro e w3⟨rfl,rfl⟩
        go_wp2_with fail
        refine⟨⟨f,k+1,16*u+d,c2,16*u+d,rfl,by go_num,by go_num,HU3.out,by omega,hcc.2.1,by omega,fun _=>⟨rfl,by omega,HK.out⟩,HB2.out⟩,by simp[intOf];omega⟩
       ·go_wp2_with fail
        refine(HD.out w2').mono ?_;rintro e w3⟨rfl,rfl⟩
        go_wp2_with fail
        refine⟨⟨f,k+1,16*v+d,c2,_,rfl,by go_num,rfl,HU3.out,by omega,hcc.2.1,by omega,fun h=>absurd h (by omega),HB2.out⟩,by simp[intOf];omega⟩
  ·have e1:((a1:Int)==123)=false:=by simp;omega
   have e2:¬(a1:Int)=123:=by omega
   have HR:Hid (Res=none):=Hi (by rw[HM.out,HN1.out];simp only;rw[if_neg h123]);clear h123
   go_wp2_with fail
   refine(QaV _ w1 (by first | exact Xe HBS.out HB4.out.size | exact Xe HBS.out HB3.out.size | exact Xe HBS.out HB2.out.size | exact Xe HBS.out HB1.out.size | exact Xe HBS.out HB.out.size)).mono ?_;rintro e w3⟨T,x,rfl,B3⟩;have HB3:=Hi B3;clear B3
   go_wp2_with fail
   refine bodyPost_ret (results_tmp3 (t:=4) (u:=5) (v:=6) (by kernel_rfl) _ _ _) rfl ?_;rw[HR.out];exact⟨HB1.out.trans (HB3.out.mono HB1.out.size),_,_,_,_,rfl⟩
end Go.Proofs.Pg
namespace Go.Proofs.Pg
open Go.RowKit
attribute [local go_sem] Oper.semAt_some
abbrev enc(r:Int):List UInt8:=Lib.encodeRune r
def esc1(c:Nat):Option Nat:=if c=110 then some 10 else if c=114 then some 13 else if c=116 then some 9 else if c=92 then some 92 else if c=48 then some 0 else if c=39 then some 39 else if c=34 then some 34 else none
def uqL(star:Bool)(l:List UInt8):Nat→List UInt8→Nat→Option (List UInt8×Nat)
 | 0,_,_=>none
 | f+1,acc,i=>if i<l.length then(match nrX l i with
  | none=>none
  | some a=>if star=true∧a.1=42 then some (acc,a.2-1)else if a.1=92 then(match nrX l a.2 with
   | none=>none
   | some b=>match esc1 b.1 with
    | some c=>uqL star l f (acc++enc c) b.2
    | none=>if b.1=120 then(match hexE l b.2 with
      | none=>none
      | some r=>uqL star l f (acc++enc r.1) r.2)
     else if b.1=117 then(match uniE l b.2 with
      | none=>none
      | some r=>uqL star l f (acc++enc r.1) r.2)
     else if b.1=42∧star=true then uqL star l f (acc++enc 42) b.2 else none)
   else uqL star l f (acc++enc a.1) a.2)
  else some (acc,i)
def uqM(star:Bool)(l:List UInt8):Option (List UInt8×Nat):=uqL star l (l.length+1) [] 0
theorem Qfk(r:Int):(enc r).length=(Lib.encodeRuneZ r).length:=by simp[Lib.encodeRune]
theorem QhA(r:Int):(enc r).length≤4:=by rw[Qfk];exact(Lib.encodeRuneZ_length r).2
theorem Qbe{r:Int}(h0:0≤r)(h1:r≤127):(enc r).length≤1:=by rw[Qfk,Lib.encodeRuneZ_one h0 h1];exact Xb _
theorem decN_enc(n b0 b1 b2 b3:Nat)(h:(Lib.decodeN n b0 b1 b2 b3).1≠65533):(enc ((Lib.decodeN n b0 b1 b2 b3).1:Int)).length≤(Lib.decodeN n b0 b1 b2 b3).2:=by
 rw[Qfk];unfold Lib.decodeN at h ⊢;split
 ·rw[Lib.encodeRuneZ_one (by omega) (by omega)];exact Xb _
 ·split
  ·split
   ·rw[Lib.encodeRuneZ_two (by omega) (by omega)];exact Xb _
   ·simp_all
  ·split
   ·split
    ·rw[Lib.encodeRuneZ_three (by omega)];exact Xb _
    ·simp_all
   ·split
    ·split
     ·exact(Lib.encodeRuneZ_length _).2
     ·simp_all
    ·simp_all
theorem QhB{l:List UInt8}{i:Nat}{r:Nat×Nat}(h:nrX l i=some r):(enc (r.1:Int)).length≤r.2-i:=by
 unfold nrX at h;split at h
 ·unfold nrM at h
  split at h
  ·cases h
  ·rename_i hn
   cases h;simp only[Nat.add_sub_cancel_left];have hne:(l.drop i).length≠0:=by rw[List.length_drop];omega
   unfold dec at hn ⊢;rw[if_neg hne]at hn ⊢;exact decN_enc _ _ _ _ _ hn
 ·cases h
theorem Qek{l:List UInt8}{i:Nat}{r:Int×Nat}(h:hexE l i=some r):i<r.2∧r.2≤l.length∧0≤r.1∧r.1≤127:=by
 unfold hexE at h;split at h
 ·cases h
 ·rename_i a ha
  have h1:=QbF ha;split at h
  ·split at h
   ·cases h
   ·rename_i b hb
    have h2:=QbF hb;have d1:=Qd5 a.1;have d2:=Qd5 b.1;split at h
    ·split at h
     ·cases h
     ·cases h
      simp only;omega
    ·cases h
  ·cases h
theorem QhC{l:List UInt8}:∀(f k:Nat)(v:Int)(i:Nat)(p:Nat×Int×Nat),uniL l f k v i=some p→i+(p.1-k)<p.2.2∧p.2.2≤l.length∧k≤p.1
 | 0,_,_,_,_,h=>by cases h
 | f+1,k,v,i,p,h=>by
  rw[uniL]at h;split at h
  ·cases h
  ·rename_i a ha
   have h1:=QbF ha;split at h
   ·cases h;simp only;omega
   ·split at h
    ·have:=QhC f _ _ _ _ h;omega
    ·cases h
theorem Qel{l:List UInt8}{i:Nat}{r:Int×Nat}(h:uniE l i=some r):i+2<r.2∧r.2≤l.length∧Lib.validRune r.1=true:=by
 unfold uniE at h;split at h
 ·cases h
 ·rename_i a ha
  have h1:=QbF ha;split at h
  ·split at h
   ·cases h
   ·rename_i p hp
    have h2:=QhC _ _ _ _ _ hp;split at h
    ·cases h
    ·split at h
     ·cases h
      rename_i hv;exact⟨by simp only;omega,h2.2.1,hv⟩
     ·cases h
  ·cases h
theorem Qdc{r:Int}(h:Lib.validRune r=true):0≤r∧r≤1114111:=by
 unfold Lib.validRune at h;simp at h;omega
theorem QaS{w w':World}{T e:TypeId}{B b:Nat}{bs:List Value}(h:Lib.IsBuilderF T e B b bs w)(hb:Below w.heap.size w w'):Lib.IsBuilderF T e B b bs w':=by
 have key:∀p,Lib.BuilderAtF T e B b p bs w→Lib.BuilderAtF T e B b p bs w':=fun p k=>by
  obtain⟨h1,v,h2,h3,h4⟩:=k;refine⟨h1,v,(hb.block b (Qad h2)).trans h2,⟨h3.1,?_⟩,h4⟩;rcases h3.2 with h5 | ⟨g,cap,cur,fz,a1,a2,a3,a4⟩
  ·exact .inl h5
  ·exact .inr ⟨g,cap,cur,fz,a1,a2,(hb.block g (Qad a3)).trans a3,a4⟩
 exact h.elim (fun k=>.inl (key _ k)) (fun k=>.inr (key _ k))
theorem Qd6(w:World):Lib.IsBuilderF 360 5 w.heap.size w.heap.size [] (w.alloc (.cells #[.pointer none,.slice none 0 0] 360)):=by
 refine .inl ⟨Xb _,.slice none 0 0,Xa w _,⟨by simp,.inl ⟨rfl,by simp⟩⟩,by simp[Value.ownBlock]⟩
end Go.Proofs.Pg
namespace Go.Proofs.Pg
open Go.RowKit Go.Proofs.Tryz
attribute [local go_sem] Oper.semAt_some
def UqRel(star:Bool)(l:List UInt8)(Res:Option (List UInt8×Nat))(w0:World)(s:Value)(wr:World):Prop :=
 ∃f acc i,s=.int .i64 ((i:Nat):Int)∧uqL star l f acc i=Res∧l.length-i<f∧i≤l.length∧acc.length≤i∧Lib.IsBuilderF 360 5 w0.heap.size w0.heap.size (Lib.byteCells acc) wr∧Below w0.heap.size w0 wr
def UqP(eb:Nat)(l:List UInt8)(b off cap:Nat)(w:World)(R:Option (List UInt8×Nat))(e:Ending)(w':World):Prop :=
 Below w.heap.size w w'∧match R with
 | none=>∃T,∃x:EVal eb w' T,e=.returned (.tuple #[.string ⟨#[]⟩,.slice none 0 0,.iface T x.1])
 | some r=>r.2≤l.length∧r.1.length≤l.length∧∃o c,e=.returned (.tuple #[.string ⟨r.1.toArray⟩,.slice (some ⟨b,o,none⟩) (l.length-r.2) c,.nilIface])∧(r.2<l.length→o=off+r.2)∧l.length-r.2≤c∧c≤cap
theorem QhD(acc:List UInt8)(r:Int):Lib.byteCells acc++Lib.runeCells r=Lib.byteCells (acc++enc r):=by
 rw[←Lib.byteCells_encodeRune];simp[Lib.byteCells]
theorem UqRel.wrote{star:Bool}{l:List UInt8}{Res:Option (List UInt8×Nat)}{w0 w w':World}{acc:List UInt8}{r:Int}{f j:Nat}(hr:uqL star l f (acc++enc r) j=Res)(hf:l.length-j<f)(hj:j≤l.length)(ha:acc.length+(enc r).length≤j)
  (hb:Below w0.heap.size w0 w)(hw:Lib.BuilderAtF 360 5 w0.heap.size w0.heap.size (.pointer (some ⟨w0.heap.size,0,none⟩)) (Lib.byteCells acc++Lib.runeCells r) w')(hB:Below w0.heap.size w w'):UqRel star l Res w0 (.int .i64 ((j:Nat):Int)) w' :=
 ⟨f,acc++enc r,j,rfl,hr,hf,hj,by rw[List.length_append];exact ha,.inr (by rw[←QhD];exact hw),hb.trans hB⟩
section
variable {star:Bool}{l:List UInt8}{f:Nat}{acc:List UInt8}{i a1 a2 b1 b2:Nat}
theorem QhE(h:¬i<l.length):uqL star l (f+1) acc i=some (acc,i):=by rw[uqL,if_neg h]
theorem Qem(h:i<l.length)(hn:nrX l i=none):uqL star l (f+1) acc i=none:=by rw[uqL,if_pos h,hn]
theorem uq_star(h:i<l.length)(hn:nrX l i=some (42,a2)):uqL true l (f+1) acc i=some (acc,a2-1):=by rw[uqL,if_pos h,hn];simp
theorem QfD(h:i<l.length)(hn:nrX l i=some (a1,a2))(h1:¬(star=true∧a1=42))(h2:a1≠92):uqL star l (f+1) acc i=uqL star l f (acc++enc a1) a2:=by
 rw[uqL,if_pos h,hn];simp only[if_neg h1,if_neg h2]
theorem uq_e0(h:i<l.length)(hn:nrX l i=some (92,a2))(hm:nrX l a2=none):uqL star l (f+1) acc i=none:=by rw[uqL,if_pos h,hn];simp[hm]
theorem QcF{c:Nat}(h:i<l.length)(hn:nrX l i=some (92,a2))(hm:nrX l a2=some (b1,b2))(he:esc1 b1=some c):uqL star l (f+1) acc i=uqL star l f (acc++enc c) b2:=by rw[uqL,if_pos h,hn];simp[hm,he]
theorem uq_x(h:i<l.length)(hn:nrX l i=some (92,a2))(hm:nrX l a2=some (120,b2)):uqL star l (f+1) acc i=match hexE l b2 with
  | none=>none
  | some r=>uqL star l f (acc++enc r.1) r.2:=by rw[uqL,if_pos h,hn];simp[hm,esc1]<;>(cases hexE l b2<;>rfl)
theorem uq_u(h:i<l.length)(hn:nrX l i=some (92,a2))(hm:nrX l a2=some (117,b2)):uqL star l (f+1) acc i=match uniE l b2 with
  | none=>none
  | some r=>uqL star l f (acc++enc r.1) r.2:=by rw[uqL,if_pos h,hn];simp[hm,esc1]<;>(cases uniE l b2<;>rfl)
theorem uq_s(h:i<l.length)(hn:nrX l i=some (92,a2))(hm:nrX l a2=some (42,b2)):uqL true l (f+1) acc i=uqL true l f (acc++enc 42) b2:=by rw[uqL,if_pos h,hn];simp[hm,esc1]
theorem QhF(h:i<l.length)(hn:nrX l i=some (92,a2))(hm:nrX l a2=some (b1,b2))(he:esc1 b1=none)(h1:b1≠120)(h2:b1≠117)(h3:¬(b1=42∧star=true)):uqL star l (f+1) acc i=none:=by rw[uqL,if_pos h,hn];simp[hm,he,h1,h2];exact fun a b=>(h3 ⟨a,b⟩).elim
end
theorem Qen(l:List UInt8)(b off cap:Nat)(w:World)(hT:Lib.Utf8Tabs 1 2 w)(hc:BytesAt w b off l)(hb:2<b∧b<w.heap.size)(hlen:l.length≤1000000)(hcap:l.length≤cap)(hcm:cap≤maxLen){eb:Nat}(heb:eb≤w.heap.size) :
  Calls prog 171 #[.slice (some ⟨b,off,none⟩) l.length cap,.bool false] w (UqP eb l b off cap w (uqM false l)):=by
 have HBS:=Hi heb;have hT':∀w',Below w.heap.size w w'→Lib.Utf8Tabs 1 2 w'∧BytesAt w' b off l∧(2<b∧b<w'.heap.size):=fun w' hB=>⟨Qbg hT (Ext.below (S:=fun _=>False) hB) (fun h=>h) (fun h=>h),fun k hk=>(Ext.below (S:=fun _=>False) hB).cell (p:=⟨b,off+k,none⟩) (fun h=>h) (hc k hk),hb.1,Nat.lt_of_lt_of_le hb.2 hB.size⟩
 have HN:Hid (∀w',Below w.heap.size w w'→∀j,j≤l.length→Calls prog 187 #[.slice (some ⟨b,off,none⟩) l.length cap,.int .i64 j] w' (NrP eb w' j (nrX l j))):=Hi fun w' hB j hj=>QbK l b off cap j w' (hT' w' hB).1 (hT' w' hB).2.1 (hT' w' hB).2.2.2 hlen hj hcap hcm (Xe heb hB.size)
 have HX:Hid (∀w',Below w.heap.size w w'→∀j,j≤l.length→Calls prog 190 #[.slice (some ⟨b,off,none⟩) l.length cap,.int .i64 j] w' (EscP eb w' (hexE l j))):=Hi fun w' hB j hj=>QfB l b off cap j w' (hT' w' hB).1 (hT' w' hB).2.1 (hT' w' hB).2.2 hlen hj hcap hcm (Xe heb hB.size)
 have HU:Hid (∀w',Below w.heap.size w w'→∀j,j≤l.length→Calls prog 191 #[.slice (some ⟨b,off,none⟩) l.length cap,.int .i64 j] w' (EscP eb w' (uniE l j))):=Hi fun w' hB j hj=>QfC l b off cap j w' (hT' w' hB).1 (hT' w' hB).2.1 (hT' w' hB).2.2 hlen hj hcap hcm (Xe heb hB.size)
 clear hT' hT hc hb heb;have HM:Hid (uqM false l=uqL false l (l.length+1) [] 0):=Hi rfl;generalize uqM false l=Res at *;go_enter func171,ntmps171
 go_upto_region 5 with(fail)
 obtain⟨w1,hw⟩:∃w1,w.alloc (.cells #[.pointer none,.slice none 0 0] 360)=w1:=⟨_,rfl⟩
 rw[hw];have HQ:Hid (UqRel false l Res w (.int .i64 0) w1):=Hi ⟨l.length+1,[],0,rfl,HM.out.symm,by omega,Nat.zero_le _,Xb _,by rw[←hw];exact Qd6 w,by rw[←hw];exact Qab w _⟩;clear hw
 go_loopw [10] (fun s wr=>UqRel false l Res w s wr) (fun s _=>l.length-(intOf s).toNat)
 case atStart=>exact HQ.out
 case round =>
  clear HQ HM;obtain⟨f,acc,i,rfl,hu,hf,hil,hai,hbd,hB⟩:=hrel;obtain⟨f,rfl⟩:∃g,f=g+1:=⟨f-1,by omega⟩
  have HB:=Hi hB;clear hB;have HBD:=Hi hbd;clear hbd;by_cases hlt:i<l.length
  ·go_wp2_with fail
   refine(HN.out _ HB.out i hil).mono ?_;rintro e w2⟨B2,h2⟩;have HB2:Hid (Below w.heap.size w w2):=Hi (HB.out.trans (B2.mono HB.out.size));have HBD2:=Hi (QaS HBD.out B2);clear B2 HB HBD;cases hn:nrX l i with
   | none =>
    rw[hn]at h2;have HR:Hid (none=Res):=Hi ((Qem hlt hn).symm.trans hu);clear hu;obtain⟨T,x,rfl⟩:=h2;clear hn
    go_wp2_with fail
    refine bodyPost_ret (results_tmp3 (t:=4) (u:=5) (v:=6) (by kernel_rfl) _ _ _) rfl ?_;rw[←HR.out];exact⟨HB2.out,_,_,rfl⟩
   | some a =>
    rw[hn]at h2;subst h2;have ha:=QbF hn;have hae:=QhB hn;obtain⟨a1,a2⟩:=a;simp only at ha hae;have HUN:=Hi (Xc hu hn);clear hu hn;by_cases h92:a1=92
    ·subst h92
     clear hae
     go_wp2_with fail
     refine(HN.out _ HB2.out a2 ha.2.1).mono ?_;rintro e w3⟨B3,h3⟩;have HB3:Hid (Below w.heap.size w w3):=Hi (HB2.out.trans (B3.mono HB2.out.size));have HBD3:=Hi (QaS HBD2.out B3);clear B3 HB2 HBD2;cases hm:nrX l a2 with
     | none =>
      rw[hm]at h3;have HR:Hid (none=Res):=Hi ((uq_e0 hlt HUN.out.2 hm).symm.trans HUN.out.1);obtain⟨T,x,rfl⟩:=h3;clear hm
      go_wp2_with fail
      refine bodyPost_ret (results_tmp3 (t:=4) (u:=5) (v:=6) (by kernel_rfl) _ _ _) rfl ?_;rw[←HR.out];exact⟨HB3.out,_,_,rfl⟩
     | some c =>
      rw[hm]at h3;subst h3;have hc:=QbF hm;obtain⟨b1,b2⟩:=c;simp only at hc;have HM:=Hi hm;clear hm;by_cases q110:b1=110
      ·subst q110
       have HRL:Hid (uqL false l f (acc++enc 10) b2=Res):=Hi ((QcF (c:=10) hlt HUN.out.2 HM.out rfl).symm.trans HUN.out.1);have hle:=Qbe (r:=10) (by decide) (by decide)
       go_wp2_with fail
       refine(Tryz.Builder_WriteRune_k w.heap.size w.heap.size _ 10 (by omega) (by omega) _ HBD3.out (by rw[Lib.byteCells_length];omega) HB3.out.size).mono ?_;rintro e w8⟨rfl,hw8,B8,_⟩;have HEND:=Hi (UqRel.wrote (r:=10) HRL.out (by omega) (by omega) (by omega) HB3.out hw8 B8);clear hw8 B8
       go_wp2_with fail
       go_roundw
       case rel=>exact HEND.out
       case measure=>simp[intOf];omega
      have e110:((b1:Int)==110)=false:=by simp;omega
      have n110:¬(b1:Int)=110:=by omega
      by_cases q114:b1=114
      ·subst q114
       have HRL:Hid (uqL false l f (acc++enc 13) b2=Res):=Hi ((QcF (c:=13) hlt HUN.out.2 HM.out rfl).symm.trans HUN.out.1);have hle:=Qbe (r:=13) (by decide) (by decide)
       go_wp2_with fail
       refine(Tryz.Builder_WriteRune_k w.heap.size w.heap.size _ 13 (by omega) (by omega) _ HBD3.out (by rw[Lib.byteCells_length];omega) HB3.out.size).mono ?_;rintro e w8⟨rfl,hw8,B8,_⟩;have HEND:=Hi (UqRel.wrote (r:=13) HRL.out (by omega) (by omega) (by omega) HB3.out hw8 B8);clear hw8 B8
       go_wp2_with fail
       go_roundw
       case rel=>exact HEND.out
       case measure=>simp[intOf];omega
      have e114:((b1:Int)==114)=false:=by simp;omega
      have n114:¬(b1:Int)=114:=by omega
      by_cases q116:b1=116
      ·subst q116
       have HRL:Hid (uqL false l f (acc++enc 9) b2=Res):=Hi ((QcF (c:=9) hlt HUN.out.2 HM.out rfl).symm.trans HUN.out.1);have hle:=Qbe (r:=9) (by decide) (by decide)
       go_wp2_with fail
       refine(Tryz.Builder_WriteRune_k w.heap.size w.heap.size _ 9 (by omega) (by omega) _ HBD3.out (by rw[Lib.byteCells_length];omega) HB3.out.size).mono ?_;rintro e w8⟨rfl,hw8,B8,_⟩;have HEND:=Hi (UqRel.wrote (r:=9) HRL.out (by omega) (by omega) (by omega) HB3.out hw8 B8);clear hw8 B8
       go_wp2_with fail
       go_roundw
       case rel=>exact HEND.out
       case measure=>simp[intOf];omega
      have e116:((b1:Int)==116)=false:=by simp;omega
      have n116:¬(b1:Int)=116:=by omega
      by_cases q92:b1=92
      ·subst q92
       have HRL:Hid (uqL false l f (acc++enc 92) b2=Res):=Hi ((QcF (c:=92) hlt HUN.out.2 HM.out rfl).symm.trans HUN.out.1);have hle:=Qbe (r:=92) (by decide) (by decide)
       go_wp2_with fail
       refine(Tryz.Builder_WriteRune_k w.heap.size w.heap.size _ 92 (by omega) (by omega) _ HBD3.out (by rw[Lib.byteCells_length];omega) HB3.out.size).mono ?_;rintro e w8⟨rfl,hw8,B8,_⟩;have HEND:=Hi (UqRel.wrote (r:=92) HRL.out (by omega) (by omega) (by omega) HB3.out hw8 B8);clear hw8 B8
       go_wp2_with fail
       go_roundw
       case rel=>exact HEND.out
       case measure=>simp[intOf];omega
      have e92:((b1:Int)==92)=false:=by simp;omega
      have n92:¬(b1:Int)=92:=by omega
      by_cases q48:b1=48
      ·subst q48
       have HRL:Hid (uqL false l f (acc++enc 0) b2=Res):=Hi ((QcF (c:=0) hlt HUN.out.2 HM.out rfl).symm.trans HUN.out.1);have hle:=Qbe (r:=0) (by decide) (by decide)
       go_wp2_with fail
       refine(Tryz.Builder_WriteRune_k w.heap.size w.heap.size _ 0 (by omega) (by omega) _ HBD3.out (by rw[Lib.byteCells_length];omega) HB3.out.size).mono ?_;rintro e w8⟨rfl,hw8,B8,_⟩;have HEND:=Hi (UqRel.wrote (r:=0) HRL.out (by omega) (by omega) (by omega) HB3.out hw8 B8);clear hw8 B8
       go_wp2_with fail
       go_roundw
       case rel=>exact HEND.out
       case measure=>simp[intOf];omega
      have e48:((b1:Int)==48)=false:=by simp;omega
      have n48:¬(b1:Int)=48:=by omega
      by_cases q39:b1=39
      ·subst q39
       have HRL:Hid (uqL false l f (acc++enc 39) b2=Res):=Hi ((QcF (c:=39) hlt HUN.out.2 HM.out rfl).symm.trans HUN.out.1);have hle:=Qbe (r:=39) (by decide) (by decide)
       go_wp2_with fail
       refine(Tryz.Builder_WriteRune_k w.heap.size w.heap.size _ 39 (by omega) (by omega) _ HBD3.out (by rw[Lib.byteCells_length];omega) HB3.out.size).mono ?_;rintro e w8⟨rfl,hw8,B8,_⟩;have HEND:=Hi (UqRel.wrote (r:=39) HRL.out (by omega) (by omega) (by omega) HB3.out hw8 B8);clear hw8 B8
       go_wp2_with fail
       go_roundw
       case rel=>exact HEND.out
       case measure=>simp[intOf];omega
      have e39:((b1:Int)==39)=false:=by simp;omega
      have n39:¬(b1:Int)=39:=by omega
      by_cases q34:b1=34
      ·subst q34
       have HRL:Hid (uqL false l f (acc++enc 34) b2=Res):=Hi ((QcF (c:=34) hlt HUN.out.2 HM.out rfl).symm.trans HUN.out.1);have hle:=Qbe (r:=34) (by decide) (by decide)
       go_wp2_with fail
       refine(Tryz.Builder_WriteRune_k w.heap.size w.heap.size _ 34 (by omega) (by omega) _ HBD3.out (by rw[Lib.byteCells_length];omega) HB3.out.size).mono ?_;rintro e w8⟨rfl,hw8,B8,_⟩;have HEND:=Hi (UqRel.wrote (r:=34) HRL.out (by omega) (by omega) (by omega) HB3.out hw8 B8);clear hw8 B8
       go_wp2_with fail
       go_roundw
       case rel=>exact HEND.out
       case measure=>simp[intOf];omega
      have e34:((b1:Int)==34)=false:=by simp;omega
      have n34:¬(b1:Int)=34:=by omega
      by_cases q120:b1=120
      ·subst q120
       go_wp2_with fail
       refine(HX.out _ HB3.out b2 hc.2.1).mono ?_;rintro e w4⟨B4,h4⟩;have HB4:Hid (Below w.heap.size w w4):=Hi (HB3.out.trans (B4.mono HB3.out.size));have HBD4:=Hi (QaS HBD3.out B4);clear B4 HB3 HBD3;have HRX:=Hi ((uq_x hlt HUN.out.2 HM.out).symm.trans HUN.out.1);cases hx:hexE l b2 with
       | none =>
        rw[hx]at h4;have HR:Hid (none=Res):=Hi (by have:=HRX.out;rw[hx]at this;exact this);obtain⟨v9,i9,T,x,rfl⟩:=h4;clear hx
        go_wp2_with fail
        refine bodyPost_ret (results_tmp3 (t:=4) (u:=5) (v:=6) (by kernel_rfl) _ _ _) rfl ?_;rw[←HR.out];exact⟨HB4.out,_,_,rfl⟩
       | some r =>
        rw[hx]at h4;subst h4;have hr:=Qek hx;have HRL:Hid (uqL false l f (acc++enc r.1) r.2=Res):=Hi (by have:=HRX.out;rw[hx]at this;exact this);obtain⟨r1,r2⟩:=r;simp only at hr;have hr1:0≤r1∧r1≤1114111:=by omega
        have hle:(enc r1).length≤1:=Qbe hr.2.2.1 hr.2.2.2;clear hx
        go_wp2_with fail
        refine(Tryz.Builder_WriteRune_k w.heap.size w.heap.size _ r1 (by omega) (by omega) _ HBD4.out (by rw[Lib.byteCells_length];omega) HB4.out.size).mono ?_;rintro e w8⟨rfl,hw8,B8,_⟩;have HEND:=Hi (UqRel.wrote (r:=r1) HRL.out (by omega) (by omega) (by omega) HB4.out hw8 B8);clear hw8 B8
        go_wp2_with fail
        go_roundw
        case rel=>exact HEND.out
        case measure=>simp[intOf];omega
      have e120:((b1:Int)==120)=false:=by simp;omega
      have n120:¬(b1:Int)=120:=by omega
      by_cases q117:b1=117
      ·subst q117
       go_wp2_with fail
       refine(HU.out _ HB3.out b2 hc.2.1).mono ?_;rintro e w4⟨B4,h4⟩;have HB4:Hid (Below w.heap.size w w4):=Hi (HB3.out.trans (B4.mono HB3.out.size));have HBD4:=Hi (QaS HBD3.out B4);clear B4 HB3 HBD3;have HRX:=Hi ((uq_u hlt HUN.out.2 HM.out).symm.trans HUN.out.1);cases hx:uniE l b2 with
       | none =>
        rw[hx]at h4;have HR:Hid (none=Res):=Hi (by have:=HRX.out;rw[hx]at this;exact this);obtain⟨v9,i9,T,x,rfl⟩:=h4;clear hx
        go_wp2_with fail
        refine bodyPost_ret (results_tmp3 (t:=4) (u:=5) (v:=6) (by kernel_rfl) _ _ _) rfl ?_;rw[←HR.out];exact⟨HB4.out,_,_,rfl⟩
       | some r =>
        rw[hx]at h4;subst h4;have hr:=Qel hx;have HRL:Hid (uqL false l f (acc++enc r.1) r.2=Res):=Hi (by have:=HRX.out;rw[hx]at this;exact this);obtain⟨r1,r2⟩:=r;simp only at hr;have hr1:0≤r1∧r1≤1114111:=Qdc hr.2.2;have hle:(enc r1).length≤4:=QhA r1;clear hx
        go_wp2_with fail
        refine(Tryz.Builder_WriteRune_k w.heap.size w.heap.size _ r1 (by omega) (by omega) _ HBD4.out (by rw[Lib.byteCells_length];omega) HB4.out.size).mono ?_;rintro e w8⟨rfl,hw8,B8,_⟩;have HEND:=Hi (UqRel.wrote (r:=r1) HRL.out (by omega) (by omega) (by omega) HB4.out hw8 B8);clear hw8 B8
        go_wp2_with fail
        go_roundw
        case rel=>exact HEND.out
        case measure=>simp[intOf];omega
      have e117:((b1:Int)==117)=false:=by simp;omega
      have n117:¬(b1:Int)=117:=by omega
      have hne:esc1 b1=none:=by unfold esc1;simp[q110,q114,q116,q92,q48,q39,q34]
      by_cases q42:b1=42
      ·subst q42
       have HR:Hid (none=Res):=Hi ((QhF hlt HUN.out.2 HM.out hne q120 q117 (by simp)).symm.trans HUN.out.1);clear hne
       go_wp2_with fail
       refine(QaV _ _ (by first | exact Xe HBS.out HB4.out.size | exact Xe HBS.out HB3.out.size | exact Xe HBS.out HB2.out.size | exact Xe HBS.out HB1.out.size | exact Xe HBS.out HB.out.size)).mono ?_;rintro e w9⟨T,x,rfl,B9⟩;have HB9:=Hi B9;clear B9
       go_wp2_with fail
       refine bodyPost_ret (results_tmp3 (t:=4) (u:=5) (v:=6) (by kernel_rfl) _ _ _) rfl ?_;rw[←HR.out];exact⟨HB3.out.trans (HB9.out.mono HB3.out.size),_,_,rfl⟩
      ·have e42:((b1:Int)==42)=false:=by simp;omega
       have n42:¬(b1:Int)=42:=by omega
       have HR:Hid (none=Res):=Hi ((QhF hlt HUN.out.2 HM.out hne q120 q117 (fun h=>q42 h.1)).symm.trans HUN.out.1);clear hne q110 q114 q116 q92 q48 q39 q34 q120 q117 q42
       go_wp2_with fail
       refine(QaV _ _ (by first | exact Xe HBS.out HB4.out.size | exact Xe HBS.out HB3.out.size | exact Xe HBS.out HB2.out.size | exact Xe HBS.out HB1.out.size | exact Xe HBS.out HB.out.size)).mono ?_;rintro e w9⟨T,x,rfl,B9⟩;have HB9:=Hi B9;clear B9
       go_wp2_with fail
       refine bodyPost_ret (results_tmp3 (t:=4) (u:=5) (v:=6) (by kernel_rfl) _ _ _) rfl ?_;rw[←HR.out];exact⟨HB3.out.trans (HB9.out.mono HB3.out.size),_,_,rfl⟩
    ·have e92:((a1:Int)==92)=false:=by simp;omega
     have n92:¬(a1:Int)=92:=by omega
     have HRL:Hid (uqL false l f (acc++enc a1) a2=Res):=Hi ((QfD hlt HUN.out.2 (by simp) h92).symm.trans HUN.out.1)
     go_wp2_with fail
     refine(Tryz.Builder_WriteRune_k w.heap.size w.heap.size _ (a1:Int) (by omega) (by omega) _ HBD2.out (by rw[Lib.byteCells_length];omega) HB2.out.size).mono ?_;rintro e w8⟨rfl,hw8,B8,_⟩;have HEND:=Hi (UqRel.wrote (r:=(a1:Int)) HRL.out (by omega) (by omega) (by omega) HB2.out hw8 B8);clear hw8 B8
     go_wp2_with fail
     go_roundw
     case rel=>exact HEND.out
     case measure=>simp[intOf];omega
  ·obtain rfl:i=l.length:=by omega
   have HR:Hid (some (acc,l.length)=Res):=Hi ((QhE hlt).symm.trans hu);clear hu;by_cases g1:cap=l.length
   all_goals
    go_upto_region 47 with(fail)
    have HD:=Hi (show Lib.IsBuilderF 360 5 w.heap.size w.heap.size (Lib.byteCells acc) wr.drew from HBD.out);have HZ:=Hi (show w.heap.size≤wr.drew.heap.size from HB.out.size);have HBw:Hid (Below w.heap.size w wr.drew):=Hi ⟨HB.out.os,HB.out.tape,HB.out.output,HB.out.size,HB.out.block⟩
    go_region_with(go_at_call 188;refine(Tryz.Builder_String_any_k w.heap.size w.heap.size acc wr.drew HD.out HZ.out).mono ?_;rintro e w3 ⟨rfl,_,B3,_⟩)
    all_goals
     go_wp2;refine bodyPost_ret (results_tmp3 (t:=4) (u:=5) (v:=6) (by kernel_rfl) _ _ _) rfl ?_;rw[←HR.out];refine⟨HBw.out.trans B3,Xb _,by simp only;omega,?_⟩;simp only[Nat.sub_self]
     first
      | exact⟨_,_,rfl,fun h=>absurd h (Nat.lt_irrefl _),Nat.zero_le _,by omega⟩
      | exact⟨_,_,rfl,fun h=>absurd h (Nat.lt_irrefl _),Nat.zero_le _,Nat.zero_le _⟩
theorem QeB(l:List UInt8)(b off cap:Nat)(w:World)(hT:Lib.Utf8Tabs 1 2 w)(hc:BytesAt w b off l)(hb:2<b∧b<w.heap.size)(hlen:l.length≤1000000)(hcap:l.length≤cap)(hcm:cap≤maxLen){eb:Nat}(heb:eb≤w.heap.size) :
  Calls prog 171 #[.slice (some ⟨b,off,none⟩) l.length cap,.bool true] w (UqP eb l b off cap w (uqM true l)):=by
 have HBS:=Hi heb;have hT':∀w',Below w.heap.size w w'→Lib.Utf8Tabs 1 2 w'∧BytesAt w' b off l∧(2<b∧b<w'.heap.size):=fun w' hB=>⟨Qbg hT (Ext.below (S:=fun _=>False) hB) (fun h=>h) (fun h=>h),fun k hk=>(Ext.below (S:=fun _=>False) hB).cell (p:=⟨b,off+k,none⟩) (fun h=>h) (hc k hk),hb.1,Nat.lt_of_lt_of_le hb.2 hB.size⟩
 have HN:Hid (∀w',Below w.heap.size w w'→∀j,j≤l.length→Calls prog 187 #[.slice (some ⟨b,off,none⟩) l.length cap,.int .i64 j] w' (NrP eb w' j (nrX l j))):=Hi fun w' hB j hj=>QbK l b off cap j w' (hT' w' hB).1 (hT' w' hB).2.1 (hT' w' hB).2.2.2 hlen hj hcap hcm (Xe heb hB.size)
 have HX:Hid (∀w',Below w.heap.size w w'→∀j,j≤l.length→Calls prog 190 #[.slice (some ⟨b,off,none⟩) l.length cap,.int .i64 j] w' (EscP eb w' (hexE l j))):=Hi fun w' hB j hj=>QfB l b off cap j w' (hT' w' hB).1 (hT' w' hB).2.1 (hT' w' hB).2.2 hlen hj hcap hcm (Xe heb hB.size)
 have HU:Hid (∀w',Below w.heap.size w w'→∀j,j≤l.length→Calls prog 191 #[.slice (some ⟨b,off,none⟩) l.length cap,.int .i64 j] w' (EscP eb w' (uniE l j))):=Hi fun w' hB j hj=>QfC l b off cap j w' (hT' w' hB).1 (hT' w' hB).2.1 (hT' w' hB).2.2 hlen hj hcap hcm (Xe heb hB.size)
 clear hT' hT hc hb heb;have HM:Hid (uqM true l=uqL true l (l.length+1) [] 0):=Hi rfl;generalize uqM true l=Res at *;go_enter func171,ntmps171
 go_upto_region 5 with(fail)
 obtain⟨w1,hw⟩:∃w1,w.alloc (.cells #[.pointer none,.slice none 0 0] 360)=w1:=⟨_,rfl⟩
 rw[hw];have HQ:Hid (UqRel true l Res w (.int .i64 0) w1):=Hi ⟨l.length+1,[],0,rfl,HM.out.symm,by omega,Nat.zero_le _,Xb _,by rw[←hw];exact Qd6 w,by rw[←hw];exact Qab w _⟩;clear hw
 go_loopw [10] (fun s wr=>UqRel true l Res w s wr) (fun s _=>l.length-(intOf s).toNat)
 case atStart=>exact HQ.out
 case round =>
  clear HQ HM;obtain⟨f,acc,i,rfl,hu,hf,hil,hai,hbd,hB⟩:=hrel;obtain⟨f,rfl⟩:∃g,f=g+1:=⟨f-1,by omega⟩
  have HB:=Hi hB;clear hB;have HBD:=Hi hbd;clear hbd;by_cases hlt:i<l.length
  ·go_wp2_with fail
   refine(HN.out _ HB.out i hil).mono ?_;rintro e w2⟨B2,h2⟩;have HB2:Hid (Below w.heap.size w w2):=Hi (HB.out.trans (B2.mono HB.out.size));have HBD2:=Hi (QaS HBD.out B2);clear B2 HB HBD;cases hn:nrX l i with
   | none =>
    rw[hn]at h2;have HR:Hid (none=Res):=Hi ((Qem hlt hn).symm.trans hu);clear hu;obtain⟨T,x,rfl⟩:=h2;clear hn
    go_wp2_with fail
    refine bodyPost_ret (results_tmp3 (t:=4) (u:=5) (v:=6) (by kernel_rfl) _ _ _) rfl ?_;rw[←HR.out];exact⟨HB2.out,_,_,rfl⟩
   | some a =>
    rw[hn]at h2;subst h2;have ha:=QbF hn;have hae:=QhB hn;obtain⟨a1,a2⟩:=a;simp only at ha hae;have HUN:=Hi (Xc hu hn);clear hu hn;by_cases h92:a1=92
    ·subst h92
     clear hae
     go_wp2_with fail
     refine(HN.out _ HB2.out a2 ha.2.1).mono ?_;rintro e w3⟨B3,h3⟩;have HB3:Hid (Below w.heap.size w w3):=Hi (HB2.out.trans (B3.mono HB2.out.size));have HBD3:=Hi (QaS HBD2.out B3);clear B3 HB2 HBD2;cases hm:nrX l a2 with
     | none =>
      rw[hm]at h3;have HR:Hid (none=Res):=Hi ((uq_e0 hlt HUN.out.2 hm).symm.trans HUN.out.1);obtain⟨T,x,rfl⟩:=h3;clear hm
      go_wp2_with fail
      refine bodyPost_ret (results_tmp3 (t:=4) (u:=5) (v:=6) (by kernel_rfl) _ _ _) rfl ?_;rw[←HR.out];exact⟨HB3.out,_,_,rfl⟩
     | some c =>
      rw[hm]at h3;subst h3;have hc:=QbF hm;obtain⟨b1,b2⟩:=c;simp only at hc;have HM:=Hi hm;clear hm;by_cases q110:b1=110
      ·subst q110
       have HRL:Hid (uqL true l f (acc++enc 10) b2=Res):=Hi ((QcF (c:=10) hlt HUN.out.2 HM.out rfl).symm.trans HUN.out.1);have hle:=Qbe (r:=10) (by decide) (by decide)
       go_wp2_with fail
       refine(Tryz.Builder_WriteRune_k w.heap.size w.heap.size _ 10 (by omega) (by omega) _ HBD3.out (by rw[Lib.byteCells_length];omega) HB3.out.size).mono ?_;rintro e w8⟨rfl,hw8,B8,_⟩;have HEND:=Hi (UqRel.wrote (r:=10) HRL.out (by omega) (by omega) (by omega) HB3.out hw8 B8);clear hw8 B8
       go_wp2_with fail
       go_roundw
       case rel=>exact HEND.out
       case measure=>simp[intOf];omega
      have e110:((b1:Int)==110)=false:=by simp;omega
      have n110:¬(b1:Int)=110:=by omega
      by_cases q114:b1=114
      ·subst q114
       have HRL:Hid (uqL true l f (acc++enc 13) b2=Res):=Hi ((QcF (c:=13) hlt HUN.out.2 HM.out rfl).symm.trans HUN.out.1);have hle:=Qbe (r:=13) (by decide) (by decide)
       go_wp2_with fail
       refine(Tryz.Builder_WriteRune_k w.heap.size w.heap.size _ 13 (by omega) (by omega) _ HBD3.out (by rw[Lib.byteCells_length];omega) HB3.out.size).mono ?_;rintro e w8⟨rfl,hw8,B8,_⟩;have HEND:=Hi (UqRel.wrote (r:=13) HRL.out (by omega) (by omega) (by omega) HB3.out hw8 B8);clear hw8 B8
       go_wp2_with fail
       go_roundw
       case rel=>exact HEND.out
       case measure=>simp[intOf];omega
      have e114:((b1:Int)==114)=false:=by simp;omega
      have n114:¬(b1:Int)=114:=by omega
      by_cases q116:b1=116
      ·subst q116
       have HRL:Hid (uqL true l f (acc++enc 9) b2=Res):=Hi ((QcF (c:=9) hlt HUN.out.2 HM.out rfl).symm.trans HUN.out.1);have hle:=Qbe (r:=9) (by decide) (by decide)
       go_wp2_with fail
       refine(Tryz.Builder_WriteRune_k w.heap.size w.heap.size _ 9 (by omega) (by omega) _ HBD3.out (by rw[Lib.byteCells_length];omega) HB3.out.size).mono ?_;rintro e w8⟨rfl,hw8,B8,_⟩;have HEND:=Hi (UqRel.wrote (r:=9) HRL.out (by omega) (by omega) (by omega) HB3.out hw8 B8);clear hw8 B8
       go_wp2_with fail
       go_roundw
       case rel=>exact HEND.out
       case measure=>simp[intOf];omega
      have e116:((b1:Int)==116)=false:=by simp;omega
      have n116:¬(b1:Int)=116:=by omega
      by_cases q92:b1=92
      ·subst q92
       have HRL:Hid (uqL true l f (acc++enc 92) b2=Res):=Hi ((QcF (c:=92) hlt HUN.out.2 HM.out rfl).symm.trans HUN.out.1);have hle:=Qbe (r:=92) (by decide) (by decide)
       go_wp2_with fail
       refine(Tryz.Builder_WriteRune_k w.heap.size w.heap.size _ 92 (by omega) (by omega) _ HBD3.out (by rw[Lib.byteCells_length];omega) HB3.out.size).mono ?_;rintro e w8⟨rfl,hw8,B8,_⟩;have HEND:=Hi (UqRel.wrote (r:=92) HRL.out (by omega) (by omega) (by omega) HB3.out hw8 B8);clear hw8 B8
       go_wp2_with fail
       go_roundw
       case rel=>exact HEND.out
       case measure=>simp[intOf];omega
      have e92:((b1:Int)==92)=false:=by simp;omega
      have n92:¬(b1:Int)=92:=by omega
      by_cases q48:b1=48
      ·subst q48
       have HRL:Hid (uqL true l f (acc++enc 0) b2=Res):=Hi ((QcF (c:=0) hlt HUN.out.2 HM.out rfl).symm.trans HUN.out.1);have hle:=Qbe (r:=0) (by decide) (by decide)
       go_wp2_with fail
       refine(Tryz.Builder_WriteRune_k w.heap.size w.heap.size _ 0 (by omega) (by omega) _ HBD3.out (by rw[Lib.byteCells_length];omega) HB3.out.size).mono ?_;rintro e w8⟨rfl,hw8,B8,_⟩;have HEND:=Hi (UqRel.wrote (r:=0) HRL.out (by omega) (by omega) (by omega) HB3.out hw8 B8);clear hw8 B8
       go_wp2_with fail
       go_roundw
       case rel=>exact HEND.out
       case measure=>simp[intOf];omega
      have e48:((b1:Int)==48)=false:=by simp;omega
      have n48:¬(b1:Int)=48:=by omega
      by_cases q39:b1=39
      ·subst q39
       have HRL:Hid (uqL true l f (acc++enc 39) b2=Res):=Hi ((QcF (c:=39) hlt HUN.out.2 HM.out rfl).symm.trans HUN.out.1);have hle:=Qbe (r:=39) (by decide) (by decide)
       go_wp2_with fail
       refine(Tryz.Builder_WriteRune_k w.heap.size w.heap.size _ 39 (by omega) (by omega) _ HBD3.out (by rw[Lib.byteCells_length];omega) HB3.out.size).mono ?_;rintro e w8⟨rfl,hw8,B8,_⟩;have HEND:=Hi (UqRel.wrote (r:=39) HRL.out (by omega) (by omega) (by omega) HB3.out hw8 B8);clear hw8 B8
       go_wp2_with fail
       go_roundw
       case rel=>exact HEND.out
       case measure=>simp[intOf];omega
      have e39:((b1:Int)==39)=false:=by simp;omega
      have n39:¬(b1:Int)=39:=by omega
      by_cases q34:b1=34
      ·subst q34
       have HRL:Hid (uqL true l f (acc++enc 34) b2=Res):=Hi ((QcF (c:=34) hlt HUN.out.2 HM.out rfl).symm.trans HUN.out.1);have hle:=Qbe (r:=34) (by decide) (by decide)
       go_wp2_with fail
       refine(Tryz.Builder_WriteRune_k w.heap.size w.heap.size _ 34 (by omega) (by omega) _ HBD3.out (by rw[Lib.byteCells_length];omega) HB3.out.size).mono ?_;rintro e w8⟨rfl,hw8,B8,_⟩;have HEND:=Hi (UqRel.wrote (r:=34) HRL.out (by omega) (by omega) (by omega) HB3.out hw8 B8);clear hw8 B8
       go_wp2_with fail
       go_roundw
       case rel=>exact HEND.out
       case measure=>simp[intOf];omega
      have e34:((b1:Int)==34)=false:=by simp;omega
      have n34:¬(b1:Int)=34:=by omega
      by_cases q120:b1=120
      ·subst q120
       go_wp2_with fail
       refine(HX.out _ HB3.out b2 hc.2.1).mono ?_;rintro e w4⟨B4,h4⟩;have HB4:Hid (Below w.heap.size w w4):=Hi (HB3.out.trans (B4.mono HB3.out.size));have HBD4:=Hi (QaS HBD3.out B4);clear B4 HB3 HBD3;have HRX:=Hi ((uq_x hlt HUN.out.2 HM.out).symm.trans HUN.out.1);cases hx:hexE l b2 with
       | none =>
        rw[hx]at h4;have HR:Hid (none=Res):=Hi (by have:=HRX.out;rw[hx]at this;exact this);obtain⟨v9,i9,T,x,rfl⟩:=h4;clear hx
        go_wp2_with fail
        refine bodyPost_ret (results_tmp3 (t:=4) (u:=5) (v:=6) (by kernel_rfl) _ _ _) rfl ?_;rw[←HR.out];exact⟨HB4.out,_,_,rfl⟩
       | some r =>
        rw[hx]at h4;subst h4;have hr:=Qek hx;have HRL:Hid (uqL true l f (acc++enc r.1) r.2=Res):=Hi (by have:=HRX.out;rw[hx]at this;exact this);obtain⟨r1,r2⟩:=r;simp only at hr;have hr1:0≤r1∧r1≤1114111:=by omega
        have hle:(enc r1).length≤1:=Qbe hr.2.2.1 hr.2.2.2;clear hx
        go_wp2_with fail
        refine(Tryz.Builder_WriteRune_k w.heap.size w.heap.size _ r1 (by omega) (by omega) _ HBD4.out (by rw[Lib.byteCells_length];omega) HB4.out.size).mono ?_;rintro e w8⟨rfl,hw8,B8,_⟩;have HEND:=Hi (UqRel.wrote (r:=r1) HRL.out (by omega) (by omega) (by omega) HB4.out hw8 B8);clear hw8 B8
        go_wp2_with fail
        go_roundw
        case rel=>exact HEND.out
        case measure=>simp[intOf];omega
      have e120:((b1:Int)==120)=false:=by simp;omega
      have n120:¬(b1:Int)=120:=by omega
      by_cases q117:b1=117
      ·subst q117
       go_wp2_with fail
       refine(HU.out _ HB3.out b2 hc.2.1).mono ?_;rintro e w4⟨B4,h4⟩;have HB4:Hid (Below w.heap.size w w4):=Hi (HB3.out.trans (B4.mono HB3.out.size));have HBD4:=Hi (QaS HBD3.out B4);clear B4 HB3 HBD3;have HRX:=Hi ((uq_u hlt HUN.out.2 HM.out).symm.trans HUN.out.1);cases hx:uniE l b2 with
       | none =>
        rw[hx]at h4;have HR:Hid (none=Res):=Hi (by have:=HRX.out;rw[hx]at this;exact this);obtain⟨v9,i9,T,x,rfl⟩:=h4;clear hx
        go_wp2_with fail
        refine bodyPost_ret (results_tmp3 (t:=4) (u:=5) (v:=6) (by kernel_rfl) _ _ _) rfl ?_;rw[←HR.out];exact⟨HB4.out,_,_,rfl⟩
       | some r =>
        rw[hx]at h4;subst h4;have hr:=Qel hx;have HRL:Hid (uqL true l f (acc++enc r.1) r.2=Res):=Hi (by have:=HRX.out;rw[hx]at this;exact this);obtain⟨r1,r2⟩:=r;simp only at hr;have hr1:0≤r1∧r1≤1114111:=Qdc hr.2.2;have hle:(enc r1).length≤4:=QhA r1;clear hx
        go_wp2_with fail
        refine(Tryz.Builder_WriteRune_k w.heap.size w.heap.size _ r1 (by omega) (by omega) _ HBD4.out (by rw[Lib.byteCells_length];omega) HB4.out.size).mono ?_;rintro e w8⟨rfl,hw8,B8,_⟩;have HEND:=Hi (UqRel.wrote (r:=r1) HRL.out (by omega) (by omega) (by omega) HB4.out hw8 B8);clear hw8 B8
        go_wp2_with fail
        go_roundw
        case rel=>exact HEND.out
        case measure=>simp[intOf];omega
      have e117:((b1:Int)==117)=false:=by simp;omega
      have n117:¬(b1:Int)=117:=by omega
      have hne:esc1 b1=none:=by unfold esc1;simp[q110,q114,q116,q92,q48,q39,q34]
      by_cases q42:b1=42
      ·subst q42
       have HRL:Hid (uqL true l f (acc++enc 42) b2=Res):=Hi ((uq_s hlt HUN.out.2 HM.out).symm.trans HUN.out.1);have hle:=Qbe (r:=42) (by decide) (by decide);clear hne
       go_wp2_with fail
       refine(Tryz.Builder_WriteRune_k w.heap.size w.heap.size _ 42 (by omega) (by omega) _ HBD3.out (by rw[Lib.byteCells_length];omega) HB3.out.size).mono ?_;rintro e w8⟨rfl,hw8,B8,_⟩;have HEND:=Hi (UqRel.wrote (r:=42) HRL.out (by omega) (by omega) (by omega) HB3.out hw8 B8);clear hw8 B8
       go_wp2_with fail
       go_roundw
       case rel=>exact HEND.out
       case measure=>simp[intOf];omega
      ·have e42:((b1:Int)==42)=false:=by simp;omega
       have n42:¬(b1:Int)=42:=by omega
       have HR:Hid (none=Res):=Hi ((QhF hlt HUN.out.2 HM.out hne q120 q117 (fun h=>q42 h.1)).symm.trans HUN.out.1);clear hne q110 q114 q116 q92 q48 q39 q34 q120 q117 q42
       go_wp2_with fail
       refine(QaV _ _ (by first | exact Xe HBS.out HB4.out.size | exact Xe HBS.out HB3.out.size | exact Xe HBS.out HB2.out.size | exact Xe HBS.out HB1.out.size | exact Xe HBS.out HB.out.size)).mono ?_;rintro e w9⟨T,x,rfl,B9⟩;have HB9:=Hi B9;clear B9
       go_wp2_with fail
       refine bodyPost_ret (results_tmp3 (t:=4) (u:=5) (v:=6) (by kernel_rfl) _ _ _) rfl ?_;rw[←HR.out];exact⟨HB3.out.trans (HB9.out.mono HB3.out.size),_,_,rfl⟩
    ·have e92:((a1:Int)==92)=false:=by simp;omega
     have n92:¬(a1:Int)=92:=by omega
     by_cases hs:a1=42
     ·subst hs
      have HR:Hid (some (acc,a2-1)=Res):=Hi ((uq_star hlt HUN.out.2).symm.trans HUN.out.1);clear HUN;obtain⟨k,rfl⟩:∃k,a2=k+1:=⟨a2-1,by omega⟩
      have g1:¬cap=k:=by omega
      go_upto_region 11 with(fail)
      have HD:=Hi (show Lib.IsBuilderF 360 5 w.heap.size w.heap.size (Lib.byteCells acc) w2.drew from HBD2.out);have HZ:=Hi (show w.heap.size≤w2.drew.heap.size from HB2.out.size);have HBw:Hid (Below w.heap.size w w2.drew):=Hi ⟨HB2.out.os,HB2.out.tape,HB2.out.output,HB2.out.size,HB2.out.block⟩
      go_region_with(go_at_call 188;refine(Tryz.Builder_String_any_k w.heap.size w.heap.size acc w2.drew HD.out HZ.out).mono ?_;rintro e w3 ⟨rfl,_,B3,_⟩)
      all_goals
       go_wp2;refine bodyPost_ret (results_tmp3 (t:=4) (u:=5) (v:=6) (by kernel_rfl) _ _ _) rfl ?_;rw[←HR.out];exact⟨HBw.out.trans B3,by simp only;omega,by simp only;omega,off+k,cap-k,rfl,fun _=>rfl,by simp only;omega,by omega⟩
     ·have e42:((a1:Int)==42)=false:=by simp;omega
      have n42:¬(a1:Int)=42:=by omega
      have HRL:Hid (uqL true l f (acc++enc a1) a2=Res):=Hi ((QfD hlt HUN.out.2 (fun h=>hs h.2) h92).symm.trans HUN.out.1)
      go_wp2_with fail
      refine(Tryz.Builder_WriteRune_k w.heap.size w.heap.size _ (a1:Int) (by omega) (by omega) _ HBD2.out (by rw[Lib.byteCells_length];omega) HB2.out.size).mono ?_;rintro e w8⟨rfl,hw8,B8,_⟩;have HEND:=Hi (UqRel.wrote (r:=(a1:Int)) HRL.out (by omega) (by omega) (by omega) HB2.out hw8 B8);clear hw8 B8
      go_wp2_with fail
      go_roundw
      case rel=>exact HEND.out
      case measure=>simp[intOf];omega
  ·obtain rfl:i=l.length:=by omega
   have HR:Hid (some (acc,l.length)=Res):=Hi ((QhE hlt).symm.trans hu);clear hu;by_cases g1:cap=l.length
   all_goals
    go_upto_region 47 with(fail)
    have HD:=Hi (show Lib.IsBuilderF 360 5 w.heap.size w.heap.size (Lib.byteCells acc) wr.drew from HBD.out);have HZ:=Hi (show w.heap.size≤wr.drew.heap.size from HB.out.size);have HBw:Hid (Below w.heap.size w wr.drew):=Hi ⟨HB.out.os,HB.out.tape,HB.out.output,HB.out.size,HB.out.block⟩
    go_region_with(go_at_call 188;refine(Tryz.Builder_String_any_k w.heap.size w.heap.size acc wr.drew HD.out HZ.out).mono ?_;rintro e w3 ⟨rfl,_,B3,_⟩)
    all_goals
     go_wp2;refine bodyPost_ret (results_tmp3 (t:=4) (u:=5) (v:=6) (by kernel_rfl) _ _ _) rfl ?_;rw[←HR.out];refine⟨HBw.out.trans B3,Xb _,by simp only;omega,?_⟩;simp only[Nat.sub_self]
     first
      | exact⟨_,_,rfl,fun h=>absurd h (Nat.lt_irrefl _),Nat.zero_le _,by omega⟩
      | exact⟨_,_,rfl,fun h=>absurd h (Nat.lt_irrefl _),Nat.zero_le _,Nat.zero_le _⟩
def strM(s:ByteArray):Option ByteArray:=(uqM false (Qdn s).data.toList).map fun r=>⟨r.1.toArray⟩
theorem Qdl(l p:List UInt8):(Lib.trimPrefix l p).length≤l.length:=by
 unfold Lib.trimPrefix;split
 ·rw[List.length_drop];omega
 ·exact Xb _
theorem Qeo(l p:List UInt8):(Lib.trimSuffix l p).length≤l.length:=by
 unfold Lib.trimSuffix;split
 ·rw[List.length_take];omega
 ·exact Xb _
theorem trim_le(s:ByteArray):(⟨(Lib.trimPrefix s.data.toList [34]).toArray⟩:ByteArray).size≤s.size:=by
 have:=Qdl s.data.toList [34];show(Lib.trimPrefix s.data.toList [34]).toArray.size≤s.data.size;simpa using this
@[go_sem] theorem conv978(s:ByteArray)(w:World):(convert 9 78 (.string s)).run prog w=.ok (.slice (some ⟨w.heap.size,0,none⟩) s.size (grownCap w s.size 0 5)) (w.drew.alloc (.cells (bytesRow s (grownCap w s.size 0 5)) 5 ((bytesRow s (grownCap w s.size 0 5)).size,(bytesRow s (grownCap w s.size 0 5)).size+1))) :=
 run_bytes_of_string w 9 78 5 s underlying9 underlying78 underlying5
theorem QeC(W:World)(s:ByteArray)(cap blk:Nat)(fr:Nat×Nat)(hb:W.heap.size=blk):BytesAt (W.alloc (.cells (bytesRow s cap) 5 fr)).drew blk 0 s.data.toList:=by
 subst hb;intro j hj;have hlen:j<s.data.size:=by simpa using hj
 refine Qaa (w:=W.alloc (.cells (bytesRow s cap) 5 fr)) (Xa W _) ?_;rw[Nat.zero_add,bytesRow,Array.getElem?_append_left (by simpa using hlen)];simp[List.getD_eq_getElem?_getD,hlen];exact⟨_,Array.getElem?_eq_getElem hlen,by rw[Array.getElem?_eq_getElem hlen];rfl⟩
theorem str_c(t:Tok)(w:World)(hG:Glob w)(h15:15≤w.heap.size)(hz:t.tx.size≤1000000){base:Nat}(hbs:base≤w.heap.size):Calls prog 138 #[t.val] w (StrV base w (strM t.tx)):=by
 have hlen:(Lib.trimSuffix (Lib.trimPrefix t.tx.data.toList [34]) [34]).length≤1000000:=by
  have h1:=Qeo (Lib.trimPrefix t.tx.data.toList [34]) [34];have h2:=Qdl t.tx.data.toList [34];have h3:t.tx.data.toList.length=t.tx.size:=rfl;omega
 have HST:Hid (strM t.tx=(uqM false (Lib.trimSuffix (Lib.trimPrefix t.tx.data.toList [34]) [34])).map fun r=>⟨r.1.toArray⟩):=Hi rfl;have HTL:=Hi (trim_le t.tx);go_enter func138,ntmps138
 go_wp2_with fail
 refine(Tryz.strings_TrimPrefix _ _ _).mono ?_;rintro e w1⟨rfl,rfl⟩
 go_wp2_with fail
 refine(Tryz.strings_TrimSuffix _ _ _ (by have:=HTL.out;omega)).mono ?_;rintro e w1⟨rfl,rfl⟩
 go_upto_region 5 with(fail)
 refine Qba fun w1 hw1=>?_
 generalize Lib.trimSuffix (Lib.trimPrefix t.tx.data.toList [34]) [34]=l at *;have B1:Below w.heap.size w w1:=by rw[hw1];exact((Ext.below (S:=fun _=>False) (((Qab w _).alloc (by simp) _))).drew).toBelow (fun _ h=>h.elim) (Xb _)
 have hz1:w1.heap.size=w.heap.size+2:=by rw[hw1];simp
 have hb1:BytesAt w1 (w.heap.size+1) 0 l:=by
  rw[hw1];exact QeC (w.alloc _) ⟨l.toArray⟩ _ _ _ (by simp)
 have hcg:=grownCap_ge (w.alloc (.cells t.row 122)) l.length 0 5;have hcm:=grownCap_le_maxLen (w.alloc (.cells t.row 122)) l.length 0 5 (by unfold maxLen;omega);generalize grownCap (w.alloc (.cells t.row 122)) l.length 0 5=cp at *;clear hw1;have HUQ:=Hi (Qen l (w.heap.size+1) 0 cp w1 (hG.ext (S:=fun _=>False) (.below B1) (fun d h=>h.elim) h15).tabs hb1 ⟨by omega,by omega⟩ hlen hcg hcm (eb:=base) (by omega))
 clear hb1 hG
 go_wp2_with fail
 refine HUQ.out.mono ?_;rintro e w2⟨B2,h2⟩;have HB:=Hi (B1.trans (B2.mono B1.size));clear B1 B2;cases hu:uqM false l with
 | none =>
  rw[hu]at h2;have HR:Hid (strM t.tx=none):=Hi (by rw[HST.out,hu];rfl);obtain⟨T,x,rfl⟩:=h2;clear hu
  go_wp2_with fail
  go_ret2
  rw[HR.out];exact⟨HB.out,_,_,_,rfl⟩
 | some r =>
  rw[hu]at h2;have HR:Hid (strM t.tx=some ⟨r.1.toArray⟩):=Hi (by rw[HST.out,hu];rfl);obtain⟨h3,h4,o,c,rfl,_⟩:=h2;have HL:=Hi h4;clear hu h4
  go_wp2_with fail
  go_ret2
  rw[HR.out];refine⟨HB.out,rfl,?_⟩;show r.1.toArray.size≤1000000;have:=HL.out;simp;omega
@[go_sem] theorem tn131b(t:TypeId)(v:Value)(ht:¬t=131)(w:World):(Instr.typeAssert (.iface t v) 20 131 true).run prog w=.ok (.tuple #[.string ⟨#[]⟩,.bool false]) w :=
 QaU underlying131 rfl zeroValue131 20 t v ht w
@[go_sem] theorem ty131b(v:Value)(w:World):(Instr.typeAssert (.iface 131 v) 20 131 true).run prog w=.ok (.tuple #[v,.bool true]) w :=
 Qa4 underlying131 rfl 20 v w
@[go_sem] theorem ty388b(v:Value)(w:World):(Instr.typeAssert (.iface 388 v) 20 388 true).run prog w=.ok (.tuple #[v,.bool true]) w :=
 Qa4 underlying388 rfl 20 v w
def Qfl:Option ByteArray→Value
 | none=>.iface 388 (.agg #[])
 | some s=>.iface 131 (.string s)
abbrev Pats:=List (Bool×ByteArray)
def QcG(acc:Pats):Option ByteArray→Pats
 | some s=>match acc.getLast? with
  | none=>[(false,s)]
  | some p=>acc.dropLast++[(p.1,p.2++s)]
 | none=>match acc.getLast? with
  | none=>[(true,⟨#[]⟩)]
  | some p=>if p.2.toList=[]then acc else acc++[(true,⟨#[]⟩)]
def npM(l:List (Option ByteArray)):Pats:=l.foldl QcG []
def Qbt(l:Pats):List Value:=l.flatMap fun p=>[.bool p.1,.string p.2]
theorem QbW(l:Pats):(Qbt l).length=l.length*2:=by
 induction l with
 | nil=>rfl
 | cons p l ih=>rw[Qbt,List.flatMap_cons,List.length_append];show 2+(Qbt l).length=_;rw[ih,List.length_cons];omega
theorem Qce(a b:Pats):Qbt (a++b)=Qbt a++Qbt b:=by simp[Qbt]
theorem QdN:∀(l:Pats)(i:Nat),i<l.length→(Qbt l)[i*2]? =some (.bool (l.getD i (false,⟨#[]⟩)).1)∧(Qbt l)[i*2+1]? =some (.string (l.getD i (false,⟨#[]⟩)).2)
 | [],i,h=>by simp at h
 | p::l,0,_=>⟨rfl,rfl⟩
 | p::l,i+1,h=>by
  have:=QdN l i (by simpa using h);rw[show Qbt (p::l)=.bool p.1::.string p.2::Qbt l from rfl,show(i+1)*2=i*2+1+1 by omega];simpa using this
def NpRel(w0:World)(cs:List (Option ByteArray))(s3 s12:Value)(wr:World):Prop :=
 ∃i,s12=.int .i64 ((i:Nat):Int)∧i≤cs.length∧wr.ownsRow (w0.heap.size+1) 316 2 s3 (npM (cs.take i)).length (Qbt (npM (cs.take i)))∧Below w0.heap.size w0 wr∧wr.heap[w0.heap.size]? =some (.cells #[.slice none 0 0] 197 (0,0))∧(npM (cs.take i)).length≤i∧∀p∈npM (cs.take i),p.2.size≤i*1000000
theorem npM_take{cs:List (Option ByteArray)}{i:Nat}{c:Option ByteArray}(h:cs[i]? =some c):npM (cs.take (i+1))=QcG (npM (cs.take i)) c:=by
 rw[List.take_add_one,h,npM,npM,List.foldl_append];rfl
theorem own_last{w:World}{B g cap:Nat}{A:Pats}{p:Bool×ByteArray}(h:w.ownsRow B 316 2 (.slice (some ⟨g,0,none⟩) (A.length+1) cap) (A.length+1) (Qbt (A++[p])))(s:ByteArray) :
  (w.setCell ⟨g,A.length*2+1,none⟩ (.string s)).ownsRow B 316 2 (.slice (some ⟨g,0,none⟩) (A.length+1) cap) (A.length+1) (Qbt (A++[(p.1,s)])):=by
 obtain⟨h1,⟨h2,_⟩ | ⟨g',cap',cur,hv,a,b,c,d,e,f⟩⟩:=h
 ·cases h2
 ·cases hv
  refine⟨by rw[QbW,List.length_append];rfl,.inr ⟨g,cap,_,rfl,a,Qac b _,c,d,by simpa using e,?_⟩⟩;apply List.ext_getElem?;intro j;have hf:∀j:Nat,(cur.toList.take ((A.length+1)*2))[j]? =(Qbt (A++[p]))[j]? := fun j=>by rw[f]
  have hj:=hf j;have hl:=QbW A;by_cases hlt:j<(A.length+1)*2
  ·rw[List.getElem?_take_of_lt hlt]at hj ⊢
   rw[Qce]at hj ⊢;by_cases hje:j=A.length*2+1
   ·subst hje
    rw[List.getElem?_append_right (by omega),hl,show A.length*2+1-A.length*2=1 by omega];simp only[Array.getElem?_toList,Array.getElem?_setIfInBounds_self];rw[if_pos (by omega)];rfl
   ·simp only[Array.getElem?_toList]at hj ⊢
    rw[Array.getElem?_setIfInBounds_ne (by omega),hj];by_cases hja:j<A.length*2
    ·rw[List.getElem?_append_left (by omega),List.getElem?_append_left (by omega)]
    ·obtain rfl:j=A.length*2:=by omega
     rw[List.getElem?_append_right (by omega),List.getElem?_append_right (by omega),hl,Nat.sub_self];rfl
  ·rw[List.getElem?_eq_none (by rw[List.length_take];omega),List.getElem?_eq_none (by rw[QbW,List.length_append];simp;omega)]
theorem QeD{w:World}{B g cap:Nat}{A:Pats}{p:Bool×ByteArray}(h:w.ownsRow B 316 2 (.slice (some ⟨g,0,none⟩) (A.length+1) cap) (A.length+1) (Qbt (A++[p]))) :
  w.cell? ⟨g,A.length*2+1,none⟩=some (.string p.2)∧w.frozen? ⟨g,A.length*2+1,none⟩=false∧B≤g∧A.length+1≤cap∧g<w.heap.size:=by
 obtain⟨h1,⟨h2,_⟩ | ⟨g',cap',cur,hv,a,b,c,d,e,f⟩⟩:=h
 ·cases h2
 ·cases hv
  refine⟨Qaa b ?_,Qae b _,a,c,Qad b⟩;have hf:(cur.toList.take ((A.length+1)*2))[A.length*2+1]? =(Qbt (A++[p]))[A.length*2+1]? := by rw[f]
  rw[List.getElem?_take_of_lt (by omega),Qce,List.getElem?_append_right (by rw[QbW];omega),QbW,show A.length*2+1-A.length*2=1 by omega,Array.getElem?_toList]at hf;exact hf
theorem newPat_c(w:World)(B:Nat)(v:Value)(cs:List (Option ByteArray))(ho:w.ownsRow B 20 1 v cs.length (cs.map Qfl))(hn:cs.length≤10000000)(hss:∀s,some s∈cs→s.size≤1000000) :
  Calls prog 242 #[v] w fun e w'=>Below w.heap.size w w'∧∃p c,e=.returned (.agg #[.slice p (npM cs).length c])∧Row2At w' w.heap.size 316 p (npM cs).length (fun i=>.bool ((npM cs).getD i (false,⟨#[]⟩)).1) (fun i=>.string ((npM cs).getD i (false,⟨#[]⟩)).2):=by
 obtain⟨p0,c0,rfl,hrow⟩:=RwU.own ho;have HRW:=Hi hrow.2;clear hrow ho;go_enter func242,ntmps242
 go_upto_region 3 with(fail)
 obtain⟨w1,hw⟩:∃w1,w.alloc (.cells #[.slice none 0 0] 197)=w1:=⟨_,rfl⟩
 rw[hw];have HQ:Hid (NpRel w cs (.slice none 0 0) (.int .i64 0) w1):=Hi ⟨0,rfl,Nat.zero_le _,⟨rfl,.inl ⟨rfl,rfl⟩⟩,by rw[←hw];exact Qab w _,by rw[←hw];exact Xa w _,Xb _,fun p hp=>by simp[npM]at hp⟩;clear hw;have HSS:=Hi hss;clear hss
 go_loopw [3,12] (fun s3 s12 wr=>NpRel w cs s3 s12 wr) (fun _ s12 _=>cs.length-(intOf s12).toNat)
 case atStart=>exact HQ.out
 case round =>
  clear HQ;obtain⟨i,rfl,hi,hO,hB,hR,hle,hpz⟩:=hrel;have HPZ:=Hi hpz;clear hpz;have HO:=Hi hO;clear hO;have HB:=Hi hB;clear hB;have HR:=Hi hR;clear hR;by_cases hlt:i<cs.length
  ·obtain⟨b,off,c,fr,rfl,hUb,hcb,hcc⟩:=HRW.out.resolve_left (by omega)
   obtain⟨x,hx⟩:∃x,cs[i]? =some x:=⟨cs[i],by simp[hlt]⟩
   have hst:=npM_take hx;have hci:wr.cell? ⟨b,off+i,none⟩=some (Qfl x):=Qaa ((HB.out.block b (Qad hcb)).trans hcb) ((hcc i (by omega)).trans (by simp[hx]));have hsz:∀s,x=some s→s.size≤1000000:=fun s h=>HSS.out s (List.mem_of_getElem? (hx.trans (congrArg some h)))
   clear hcb hcc hx;generalize npM (cs.take i)=A at *;have hsw:=HB.out.size;have hlr:=Qad HR.out;rcases List.eq_nil_or_concat A with rfl | ⟨A,q,rfl⟩
   ·obtain⟨p3,c3,rfl,_⟩:=RwU.own HO.out
    simp only[List.length_nil]at hle;cases x with
    | some s =>
     unfold Qfl at hci;have hss:=hsz s rfl;have hst':npM (cs.take (i+1))=[(false,s)]:=hst;have HS:=Hi hst';clear hst hst' hsz;have HE:Hid ((⟨#[]⟩:ByteArray)++s=s):=Hi (by apply ByteArray.ext;simp);have hz0:(⟨#[]⟩:ByteArray).size≤0:=Xb 0
     go_wp2_with fail
     go_roundw
     case rel =>
      refine⟨i+1,by go_num,by omega,?_,HB.out.alloc hsw _,Qaf HR.out _,by rw[HS.out];simp,fun p hp=>?_⟩
      ·rw[HS.out]
       refine⟨rfl,.inr ⟨wr.heap.size,1,_,rfl,by omega,Xa wr _,Xb _,by decide,rfl,?_⟩⟩;simp[Qbt,HE.out]
      ·rw[HS.out,List.mem_singleton]at hp
       subst hp;simp only;omega
     case measure=>simp[intOf];omega
    | none =>
     unfold Qfl at hci;have hst':npM (cs.take (i+1))=[(true,⟨#[]⟩)]:=hst;have HS:=Hi hst';clear hst hst' hsz
     go_upto_region 21 with(fail)
     refine Qba fun w1 hw1=>?_
     have B1:Below wr.heap.size wr w1:=by rw[hw1];exact Qab wr _
     clear hw1;have hz1:=B1.size;have BA:Below wr.heap.size wr (w1.alloc (.cells #[.bool true,.string ⟨#[]⟩] 316)):=B1.alloc hz1 _;have hnew:=Xa w1 (.cells #[.bool true,.string ⟨#[]⟩] 316);have hOa:=Qaj (S:=fun _=>False) HO.out (.below BA) (fun _ h=>h.elim);have hRa:=(BA.block _ hlr).trans HR.out;have hBa:=HB.out.trans (BA.mono hsw);have HAll:=Hi (Xc hOa (Xc hnew (Xc hRa hBa)));clear hOa hnew hRa hBa BA B1
     go_wp2_with(at_builtin;refine appG sl195 rfl _ _ rfl (w.heap.size+1) _ _ _ rfl HAll.out.1 _ [.bool true,.string ⟨#[]⟩] rfl rfl (fun j u hj=>Qaa HAll.out.2.1 (by simpa using hj)) (fun v hv=>by simp at hv;rcases hv with rfl | rfl<;>rfl) (by unfold maxLen;first | omega | (simp<;>omega)) (by first | omega | (simp<;>omega)) (by first | omega | (simp<;>omega)) ?_)
     intro v9 w9 hO9 hg9 _;have hB9:Below w.heap.size w w9:=(Ext.grow (S:=fun _=>False) (.below HAll.out.2.2.2) HAll.out.1 hg9 (by omega)).toBelow (fun _ h=>h.elim) (Xb _);have hR9:=QaL HAll.out.2.2.1 HAll.out.1 hg9 (by omega);have HEND:=Hi (Xc hO9 (Xc hB9 hR9));clear hO9 hB9 hR9 hg9
     go_wp2_with fail
     go_roundw
     case rel=>exact⟨i+1,by go_num,by omega,by rw[HS.out];exact HEND.out.1,HEND.out.2.1,HEND.out.2.2,by rw[HS.out];simp,fun p hp=>by rw[HS.out,List.mem_singleton]at hp;subst hp;exact Nat.zero_le _⟩
     case measure=>simp[intOf];omega
   ·simp only[List.concat_eq_append]at *
    have hqz:=HPZ.out q (by simp);rw[List.length_append,List.length_singleton]at HO hle;obtain⟨p3,c3,rfl,hr3⟩:=RwU.own HO.out;obtain⟨g,rfl⟩:∃g,p3=some ⟨g,0,none⟩:=by
     rcases HO.out.2 with⟨h,_⟩ | ⟨g,_,_,h,_⟩
     ·cases h
     ·cases h;exact⟨g,rfl⟩
    obtain⟨k1,k2,k3,k4,k5⟩:=QeD HO.out;clear hr3;cases x with
    | some s =>
     unfold Qfl at hci;have hss:=hsz s rfl;have hst':npM (cs.take (i+1))=A++[(q.1,q.2++s)]:=by rw[hst];simp[QcG]
     have HS:=Hi hst';clear hst hst' hsz;have HO2:=Hi (own_last HO.out (q.2++s));have HR2:=Hi (Qag (o:=A.length*2+1) (d:=g) HR.out (by omega) (.string (q.2++s)));have HB2:=Hi (((Ext.below (S:=fun _=>False) HB.out).set (p:=⟨g,A.length*2+1,none⟩) (.inr (by simp only;omega)) (.string (q.2++s))).toBelow (fun _ h=>h.elim) (Xb _));have hsum:q.2.size+s.size≤100000000000000:=by omega
     go_wp2_with fail
     go_roundw
     case rel =>
      refine⟨i+1,by go_num,by omega,by rw[HS.out,List.length_append];exact HO2.out,HB2.out,HR2.out,by rw[HS.out];simp;omega,fun p hp=>?_⟩;rw[HS.out]at hp;rcases List.mem_append.1 hp with hp | hp
      ·exact Xe (HPZ.out p (by simp[hp])) (Nat.mul_le_mul_right _ (Nat.le_succ i))
      ·rw[List.mem_singleton]at hp
       subst hp;simp only[ByteArray.size_append];omega
     case measure=>simp[intOf];omega
    | none =>
     unfold Qfl at hci;by_cases hq:q.2.toList=[]
     ·have hst':npM (cs.take (i+1))=A++[q]:=by rw[hst];simp[QcG,hq]
      have HS:=Hi hst';clear hst hst' hsz;have hq2:(!q.2.toList.isEmpty)=false:=by rw[hq];rfl
      go_wp2_with fail
      go_roundw
      case rel=>exact⟨i+1,by go_num,by omega,by rw[HS.out,List.length_append];exact Qaj (S:=fun _=>False) HO.out (.below (Qab wr _)) (fun _ h=>h.elim),HB.out.alloc hsw _,Qaf HR.out _,by rw[HS.out];simp;omega,fun p hp=>by rw[HS.out]at hp;exact Xe (HPZ.out p (by simpa using hp)) (Nat.mul_le_mul_right _ (Nat.le_succ i))⟩
      case measure=>simp[intOf];omega
     ·have hst':npM (cs.take (i+1))=(A++[q])++[(true,⟨#[]⟩)]:=by rw[hst];simp[QcG,hq]
      have HS:=Hi hst';clear hst hst' hsz;have hq2:(!q.2.toList.isEmpty)=true:=by
       cases h:q.2.toList with
       | nil=>exact absurd h hq
       | cons a l=>rfl
      have k1':∀o,(wr.alloc o).cell? ⟨g,A.length*2+1,none⟩=some (.string q.2):=fun o=>(Ext.below (S:=fun _=>False) (Qab wr o)).cell (fun h=>h) k1
      go_upto_region 21 with(fail)
      refine Qba fun w1 hw1=>?_
      have B1:Below wr.heap.size wr w1:=by rw[hw1];exact Qab wr _
      clear hw1;have hz1:=B1.size;have BA:Below wr.heap.size wr (w1.alloc (.cells #[.bool true,.string ⟨#[]⟩] 316)):=B1.alloc hz1 _;have hnew:=Xa w1 (.cells #[.bool true,.string ⟨#[]⟩] 316);have hOa:=Qaj (S:=fun _=>False) HO.out (.below BA) (fun _ h=>h.elim);have hRa:=(BA.block _ hlr).trans HR.out;have hBa:=HB.out.trans (BA.mono hsw);have HAll:=Hi (Xc hOa (Xc hnew (Xc hRa hBa)));clear hOa hnew hRa hBa BA B1
      go_wp2_with(at_builtin;refine appG sl195 rfl _ _ rfl (w.heap.size+1) _ _ _ rfl HAll.out.1 _ [.bool true,.string ⟨#[]⟩] rfl rfl (fun j u hj=>Qaa HAll.out.2.1 (by simpa using hj)) (fun v hv=>by simp at hv;rcases hv with rfl | rfl<;>rfl) (by unfold maxLen;first | omega | (simp<;>omega)) (by first | omega | (simp<;>omega)) (by first | omega | (simp<;>omega)) ?_)
      intro v9 w9 hO9 hg9 _;have hB9:Below w.heap.size w w9:=(Ext.grow (S:=fun _=>False) (.below HAll.out.2.2.2) HAll.out.1 hg9 (by omega)).toBelow (fun _ h=>h.elim) (Xb _);have hR9:=QaL HAll.out.2.2.1 HAll.out.1 hg9 (by omega);have HEND:=Hi (Xc hO9 (Xc hB9 hR9));clear hO9 hB9 hR9 hg9
      go_wp2_with fail
      go_roundw
      case rel =>
       refine⟨i+1,by go_num,by omega,by rw[HS.out,List.length_append,List.length_append,Qce];exact HEND.out.1,HEND.out.2.1,HEND.out.2.2,by rw[HS.out];simp;omega,fun p hp=>?_⟩;rw[HS.out]at hp;rcases List.mem_append.1 hp with hp | hp
       ·exact Xe (HPZ.out p (by simpa using hp)) (Nat.mul_le_mul_right _ (Nat.le_succ i))
       ·rw[List.mem_singleton]at hp
        subst hp;exact Nat.zero_le _
      case measure=>simp[intOf];omega
  ·obtain rfl:i=cs.length:=by omega
   have hc0:wr.cell? ⟨w.heap.size,0,none⟩=some (.slice none 0 0):=Qaa HR.out rfl;have hf0:=Qae HR.out 0;rw[List.take_of_length_le (Xb _)]at HO hle;obtain⟨p3,c3,rfl,hr3⟩:=RwU.own HO.out;have HW:=Hi hr3;clear hr3
   go_wp2_with fail
   refine bodyPost_ret (Qao (a:=2) (t:=197) (by kernel_rfl) _ ⟨w.heap.size,0,none⟩ rfl _ _ (QcP _ _ _ _ (by kernel_rfl) (by kernel_rfl) (Qaa (o:=0) (Qac (o:=0) HR.out _) rfl))) rfl ?_;refine⟨Qby (d:=w.heap.size) (o:=0) HB.out (Xb _),p3,c3,rfl,?_⟩;rcases HW.out.2 with h | ⟨b9,off9,c9,fr9,rfl,h1,h2,h3⟩
   ·exact .inl h
   ·refine .inr ⟨b9,off9,c9,fr9,rfl,by omega,Qag h2 (by omega) _,fun i hi=>?_⟩
    have e0:=h3 (i*2) (by omega);have e1:=h3 (i*2+1) (by omega);rw[←Nat.add_assoc]at e1;rw[e0,e1];exact QdN _ i hi
def QbG:List UInt8→Nat
 | []=>0
 | c::l=>if c=42 then QbG l+1 else 0
def ppL:Nat→List (Option ByteArray)→List UInt8→Option (List (Option ByteArray))
 | 0,_,_=>none
 | f+1,acc,l=>if l=[]then some acc else match uqM true (l.drop (QbG l))with
  | none=>none
  | some r=>ppL f (acc++List.replicate (QbG l) none++[some ⟨r.1.toArray⟩]) ((l.drop (QbG l)).drop r.2)
def ppM(l:List UInt8):Option (List (Option ByteArray)):=(ppL (l.length+1) [] l).map fun c=>if c=[]then [some ⟨#[]⟩]else c
def patM(s:ByteArray):Option Pats:=(ppM (Qdn s).data.toList).map npM
theorem QfE:∀l,QbG l≤l.length
 | []=>Xb _
 | c::l=>by
  have:=QfE l;unfold QbG;rw[List.length_cons];split<;>omega
theorem QdO:∀l:List UInt8,QbG (l.drop (QbG l))=0
 | []=>rfl
 | c::l=>by
  by_cases h:c=42
  ·simp only[QbG,h,if_true,List.drop_succ_cons];exact QdO l
  ·simp[QbG,h]
theorem QeE(k:Nat)(l:List UInt8):QbG (List.replicate k 42++l)=k+QbG l:=by
 induction k with
 | zero=>simp
 | succ k ih=>rw[List.replicate_succ,List.cons_append];show(if(42:UInt8)=42 then QbG (List.replicate k 42++l)+1 else 0)=_;rw[if_pos rfl,ih];omega
theorem rep_drop(k:Nat)(l:List UInt8):(List.replicate k 42++l).drop k=l:=by
 rw[List.drop_append,List.drop_eq_nil_of_le (by simp),List.length_replicate,Nat.sub_self];rfl
theorem decN_42{n b0 b1 b2 b3:Nat}(h:(Lib.decodeN n b0 b1 b2 b3).1=42):b0=42:=by
 unfold Lib.decodeN at h
 repeat' split at h
 all_goals first | exact h | (simp only at h;omega) | cases h
theorem nrX_42{l:List UInt8}{z:Nat}(h:nrX l 0=some (42,z)):l.getD 0 0=42:=by
 unfold nrX at h;split at h
 ·rename_i hi
  unfold nrM at h;split at h
  ·cases h
  ·have h1:=congrArg Prod.fst (Xd h)
   simp only[List.drop_zero]at h1;unfold dec at h1;rw[if_neg (by omega)]at h1;have:=decN_42 h1;exact UInt8.toNat_inj.1 (by simpa using this)
 ·cases h
theorem Qbx{star:Bool}{l:List UInt8}:∀(f:Nat)(acc:List UInt8)(i:Nat)(r:List UInt8×Nat),uqL star l f acc i=some r→i≤r.2
 | 0,_,_,_,h=>by cases h
 | f+1,acc,i,r,h=>by
  by_cases hi:i<l.length
  ·cases hn:nrX l i with
   | none=>rw[Qem hi hn]at h;cases h
   | some a =>
    have ha:=QbF hn;obtain⟨a1,a2⟩:=a;simp only at ha;rw[uqL,if_pos hi,hn]at h;simp only at h;split at h
    ·cases h;simp only;omega
    ·split at h
     ·split at h
      ·cases h
      ·rename_i b hb
       have hb:=QbF hb;split at h
       ·have:=Qbx f _ _ _ h;omega
       ·split at h
        ·split at h
         ·cases h
         ·rename_i r' hr
          have hr:=Qek hr;have:=Qbx f _ _ _ h;omega
        ·split at h
         ·split at h
          ·cases h
          ·rename_i r' hr
           have hr:=Qel hr;have:=Qbx f _ _ _ h;omega
         ·split at h
          ·have:=Qbx f _ _ _ h;omega
          ·cases h
     ·have:=Qbx f _ _ _ h;omega
  ·rw[QhE hi]at h;cases h;exact Xb _
theorem QhG{l:List UInt8}{r:List UInt8×Nat}(h0:QbG l=0)(hl:l≠[])(h:uqM true l=some r):0<r.2:=by
 unfold uqM at h;have hi:0<l.length:=List.length_pos_iff.2 hl;cases hn:nrX l 0 with
 | none=>rw[Qem hi hn]at h;cases h
 | some a =>
  have ha:=QbF hn;obtain⟨a1,a2⟩:=a;simp only at ha;have h42:a1≠42:=by
   rintro rfl;have:=nrX_42 hn;cases l with
   | nil=>exact hl rfl
   | cons c l =>
    simp at this;subst this;simp[QbG]at h0
  rw[uqL,if_pos hi,hn]at h;simp only at h;rw[if_neg (fun k=>h42 k.2)]at h;split at h
  ·split at h
   ·cases h
   ·rename_i b hb
    have hb:=QbF hb;split at h
    ·have:=Qbx _ _ _ _ h;omega
    ·split at h
     ·split at h
      ·cases h
      ·rename_i r' hr
       have hr:=Qek hr;have:=Qbx _ _ _ _ h;omega
     ·split at h
      ·split at h
       ·cases h
       ·rename_i r' hr
        have hr:=Qel hr;have:=Qbx _ _ _ _ h;omega
      ·split at h
       ·have:=Qbx _ _ _ _ h;omega
       ·cases h
  ·have:=Qbx _ _ _ _ h;omega
def BufIs(w:World)(B:Nat)(s:Value)(l:List UInt8):Prop :=
 ∃b o c,s=.slice (some ⟨b,o,none⟩) l.length c∧l.length≤c∧c≤maxLen∧BytesAt w b o l∧2<b∧b<B
def QcH:Value→Nat
 | .slice _ n _=>n
 | _=>0
def Qd7(l:List (Option ByteArray)):List Value:=l.map Qfl
def PpOut(w0:World)(R:Option (List (Option ByteArray)))(s4 s5:Value)(wr:World):Prop :=
 ∃f acc l,ppL f acc l=R∧l.length<f∧BufIs wr (w0.heap.size+2) s4 l∧l.length≤1000000∧wr.ownsRow (w0.heap.size+2) 20 1 s5 acc.length (Qd7 acc)∧acc.length+2*l.length≤2000000∧(∀s,some s∈acc→s.size≤1000000)∧Below w0.heap.size w0 wr∧wr.heap[w0.heap.size]? =some (.cells #[.slice none 0 0] 197 (0,0))∧w0.heap.size+2≤wr.heap.size
def PpIn(w0:World)(acc0:List (Option ByteArray))(l0:List UInt8)(s4 s5:Value)(wr:World):Prop :=
 ∃k l,l0=List.replicate k 42++l∧k≤QbG l0∧BufIs wr (w0.heap.size+2) s4 l∧wr.ownsRow (w0.heap.size+2) 20 1 s5 (acc0.length+k) (Qd7 (acc0++List.replicate k none))∧Below w0.heap.size w0 wr∧wr.heap[w0.heap.size]? =some (.cells #[.slice none 0 0] 197 (0,0))∧w0.heap.size+2≤wr.heap.size
theorem Qfm{W:World}{fn:Func}{R:Nat}{v err:Value}{Q:Ending→World→Prop}(a:Act)(s s2:Nat)(hf:fn.results=#[.cell s 197,.tmp s2])(ha:a.tmps.getD s undef=.pointer (some ⟨R,0,none⟩))(he:a.tmps.getD s2 undef=err)(had:a.defers=[])
  (r:W.heap[R]? =some (.cells #[v] 197 (0,0)))(h:Q (.returned (.tuple #[.agg #[v],err])) W):bodyPost prog fn Q Exit.ret a W:=by
 refine bodyPost_ret (QaH (a:=s) (t:=197) hf _ ⟨R,0,none⟩ ha _ _ (QcP _ _ _ _ (by kernel_rfl) (by kernel_rfl) (Qaa (o:=0) r rfl))) had ?_;rw[he];exact h
theorem pat_c(s:ByteArray)(w:World)(hG:Glob w)(h15:15≤w.heap.size)(hz:s.size≤1000000)(base:Nat)(hbase:base≤w.heap.size):Calls prog 235 #[.string (Qdn s)] w (PatV base w (patM s)):=by
 have hlen:(Qdn s).data.toList.length≤1000000:=by
  have h1:=Qeo (Lib.trimPrefix s.data.toList [34]) [34];have h2:=Qdl s.data.toList [34];have h3:s.data.toList.length=s.size:=rfl;show(Lib.trimSuffix (Lib.trimPrefix s.data.toList [34]) [34]).length≤1000000;omega
 have HP:Hid (patM s=(ppM (Qdn s).data.toList).map npM):=Hi rfl;generalize patM s=Res at *;generalize Qdn s=t at *;have hts:t.size≤1000000:=hlen;go_enter func235,ntmps235
 go_upto_region 3 with(fail)
 refine Qba fun w1 hw1=>?_
 have hcg:=grownCap_ge (w.alloc (.cells #[.slice none 0 0] 197)) t.size 0 5;have hcm:=grownCap_le_maxLen (w.alloc (.cells #[.slice none 0 0] 197)) t.size 0 5 (by unfold maxLen;omega);have B1:Below w.heap.size w w1:=by rw[hw1];exact((Ext.below (S:=fun _=>False) (((Qab w _).alloc (by simp) _))).drew).toBelow (fun _ h=>h.elim) (Xb _)
 have hz1:w1.heap.size=w.heap.size+2:=by rw[hw1];simp
 have hr1:w1.heap[w.heap.size]? =some (.cells #[.slice none 0 0] 197 (0,0)):=by rw[hw1];exact Qaf (Xa w _) _
 have hb1:BytesAt w1 (w.heap.size+1) 0 t.data.toList:=by
  rw[hw1];exact QeC (w.alloc _) t _ _ _ (by simp)
 clear hw1;generalize grownCap (w.alloc (.cells #[.slice none 0 0] 197)) t.size 0 5=cp at *;have hsz:t.size=t.data.toList.length:=rfl;rw[hsz]at hcg ⊢;generalize t.data.toList=l0 at *;clear hsz hts;have HT:=Hi hG.tabs;clear hG;have HQ:Hid (PpOut w (ppL (l0.length+1) [] l0) (.slice (some ⟨w.heap.size+1,0,none⟩) l0.length cp) (.slice none 0 0) w1):=Hi ⟨l0.length+1,[],l0,rfl,Nat.lt_succ_self _,⟨_,_,_,rfl,hcg,hcm,hb1,by omega,by omega⟩,hlen,⟨rfl,.inl ⟨rfl,rfl⟩⟩,by simp;omega,fun s h=>by simp at h,B1,hr1,by omega⟩
 clear hb1 hr1 B1 hcg hcm
 go_loopw [4,5] (fun s4 s5 wr=>PpOut w (ppL (l0.length+1) [] l0) s4 s5 wr) (fun s4 _ _=>QcH s4)
 case atStart=>exact HQ.out
 case round =>
  clear HQ;obtain⟨f,acc,l,hpp,hlf,hbuf,hll,hO,hal,hsz,hB,hR,hws⟩:=hrel;obtain⟨f,rfl⟩:∃g,f=g+1:=⟨f-1,by omega⟩
  have HPP:=Hi hpp;clear hpp;have HO:=Hi hO;clear hO;have HSZ:=Hi hsz;clear hsz;have HB:=Hi hB;clear hB;have HR:=Hi hR;clear hR;have HBUF:=Hi hbuf;by_cases hlne:l=[]
  ·subst hlne
   obtain⟨b,o,c,rfl,hlc,hcm,hby,hb2,hbB⟩:=hbuf;have HPP2:Hid (some acc=ppL (l0.length+1) [] l0):=Hi (by have:=HPP.out;rw[ppL,if_pos rfl]at this;exact this);clear HBUF HPP hby
   have hfin:∀(cs:List (Option ByteArray))(w2:World)(v:Value),Res=some (npM cs)→w2.ownsRow (w.heap.size+2) 20 1 v cs.length (Qd7 cs)→cs.length≤10000000→(∀s,some s∈cs→s.size≤1000000)→Below w.heap.size w w2→w2.heap[w.heap.size]? =some (.cells #[.slice none 0 0] 197 (0,0)) →
     Calls prog 242 #[v] w2 fun e w3=>∃p c,e=.returned (.agg #[.slice p (npM cs).length c])∧w3.cell? ⟨w.heap.size,0,none⟩=some (.slice none 0 0)∧w3.frozen? ⟨w.heap.size,0,none⟩=false∧Hid (w3.heap[w.heap.size]? =some (.cells #[.slice none 0 0] 197 (0,0))∧PatV base w Res (.returned (.tuple #[.agg #[.slice p (npM cs).length c],.nilIface])) (w3.setCell ⟨w.heap.size,0,none⟩ (.slice p (npM cs).length c))):=by
    intro cs w2 v hres ho hcs hss hb2' hr2;refine(newPat_c w2 _ v cs ho hcs hss).mono ?_;rintro e w3⟨B3,p,c,rfl,hrow⟩;have hr3:=Bk B3 hr2;refine⟨p,c,rfl,Qaa hr3 rfl,Qae hr3 0,Hi ⟨hr3,Qby (d:=w.heap.size) (o:=0) (hb2'.trans (B3.mono hb2'.size)) (Xb _),?_⟩⟩;rw[hres];refine⟨p,c,rfl,?_⟩;exact(hrow.ext (.inr (.inr rfl)) (S:=(·=w.heap.size)) ((Ext.refl (·=w.heap.size) w3).set (p:=⟨w.heap.size,0,none⟩) (.inl rfl) _) (fun d hd=>.inl (by subst hd;exact Qad hr2))).mono (Xe hbase hb2'.size)
   have HFIN:=Hi hfin;clear hfin;by_cases hac:acc=[]
   ·subst hac
    obtain⟨p5,c5,rfl,_⟩:=RwU.own HO.out;have BA:Below wr.heap.size wr (wr.alloc (.cells #[.iface 131 (.string ⟨#[]⟩)] 20)):=Qab wr _;have hnew:=Xa wr (.cells #[.iface 131 (.string ⟨#[]⟩)] 20);have hOa:=Qaj (S:=fun _=>False) HO.out (.below BA) (fun _ h=>h.elim);have hRa:=(BA.block _ (Qad HR.out)).trans HR.out;have hBa:=HB.out.trans (BA.mono HB.out.size);have HAll:=Hi (Xc hOa (Xc hnew (Xc hRa hBa)));clear hOa hnew hRa hBa BA
    have HN:Hid (Res=some (npM [some ⟨#[]⟩])):=Hi (by rw[HP.out];unfold ppM;rw[←HPP2.out];rfl)
    go_wp2_with(at_builtin;refine appG sl321 rfl _ _ rfl (w.heap.size+2) _ _ _ rfl HAll.out.1 _ [.iface 131 (.string ⟨#[]⟩)] rfl rfl (fun j u hj=>Qaa HAll.out.2.1 (by simpa using hj)) (fun v hv=>by rw[List.mem_singleton.1 hv];rfl) (by unfold maxLen;simp) (by simp) (by simp;omega) ?_)
    intro v9 w9 hO9 hg9 _;have hB9:Below w.heap.size w w9:=(Ext.grow (S:=fun _=>False) (.below HAll.out.2.2.2) HAll.out.1 hg9 (by omega)).toBelow (fun _ h=>h.elim) (Xb _);have hR9:=QaL HAll.out.2.2.1 HAll.out.1 hg9 (by omega);have HC:=Hi (HFIN.out [some ⟨#[]⟩] w9 v9 HN.out hO9 (by decide) (fun s hs=>by simp at hs;subst hs;exact Nat.zero_le _) hB9 hR9);clear hO9 hB9 hR9 hg9
    go_wp2_with fail
    refine HC.out.mono ?_;rintro e w3⟨p,c,rfl,hc3,hf3,HE⟩
    go_wp2_with fail
    exact Qfm _ 2 3 (by kernel_rfl) rfl rfl rfl (Qac (o:=0) HE.out.1 _) HE.out.2
   ·have hap:0<acc.length:=List.length_pos_iff.2 hac
    have e0:((acc.length:Int)==0)=false:=by simp;exact hac
    have HN:Hid (Res=some (npM acc)):=Hi (by rw[HP.out];unfold ppM;rw[←HPP2.out];simp[hac]);obtain⟨p5,c5,rfl,_⟩:=RwU.own HO.out;have HC:=Hi (HFIN.out acc wr _ HN.out HO.out (by omega) HSZ.out HB.out HR.out);clear hac
    go_wp2_with fail
    refine HC.out.mono ?_;rintro e w3⟨p,c,rfl,hc3,hf3,HE⟩
    go_wp2_with fail
    exact Qfm _ 2 3 (by kernel_rfl) rfl rfl rfl (Qac (o:=0) HE.out.1 _) HE.out.2
  ·obtain⟨b,o,c,rfl,hlc,hcm,hby,hb2,hbB⟩:=hbuf
   clear hby
   have hpos:0<l.length:=List.length_pos_iff.2 hlne
   go_wp2_with fail
   have HQ:Hid (PpIn w acc l (.slice (some ⟨b,o,none⟩) l.length c) u5 wr):=Hi ⟨0,l,rfl,Nat.zero_le _,HBUF.out,by simpa using HO.out,HB.out,HR.out,hws⟩
   go_loopw [4,5] (fun s4 s5 wr=>PpIn w acc l s4 s5 wr) (fun s4 _ _=>QcH s4)
   case atStart=>exact HQ.out
   case round =>
    clear HQ HBUF HO HB HR hb2 hbB hlc hcm hws;obtain⟨k,l',hl0,hks,hbuf,hO,hB,hR,hws⟩:=hrel;have hkl:k+l'.length=l.length:=by rw[hl0];simp
    have HL0:=Hi hl0;clear hl0;have HO:=Hi hO;clear hO;have HB:=Hi hB;clear hB;have HR:=Hi hR;clear hR;have HBUF:=Hi hbuf;obtain⟨b,o,c,rfl,hlc,hcm,hby,hb2,hbB⟩:=hbuf;have HBY:=Hi hby;clear hby
    by_cases hst:∃l2,l'=42::l2
    ·obtain⟨l2,rfl⟩:=hst
     have c42:=HBY.out 0 (by simp);rw[Nat.add_zero]at c42;have c42':wr.cell? ⟨b,o,none⟩=some (.int .u8 42):=c42;clear c42;have hp2:0<(42::l2:List UInt8).length:=by simp
     have hlen2:(42::l2:List UInt8).length=l2.length+1:=by simp
     have HBY2:Hid (BytesAt wr b (o+1) l2):=Hi (HBY.out.drop 1);have hacc:acc.length+k≤2000000:=by omega
     obtain⟨p5,c5,rfl,_⟩:=RwU.own HO.out;have BA:Below wr.heap.size wr (wr.alloc (.cells #[.iface 388 (.agg #[])] 20)):=Qab wr _;have hnew:=Xa wr (.cells #[.iface 388 (.agg #[])] 20);have hOa:=Qaj (S:=fun _=>False) HO.out (.below BA) (fun _ h=>h.elim);have hRa:=(BA.block _ (Qad HR.out)).trans HR.out;have hBa:=HB.out.trans (BA.mono HB.out.size);have HAll:=Hi (Xc hOa (Xc hnew (Xc hRa hBa)));clear hOa hnew hRa hBa BA
     have HEq:Hid (Qd7 (acc++List.replicate k none)++[.iface 388 (.agg #[])]=Qd7 (acc++List.replicate (k+1) none)):=Hi (by rw[List.replicate_succ',←List.append_assoc,Qd7,Qd7,List.map_append (l₁:=acc++_)];rfl);have hk1:k+1≤QbG l:=by rw[HL0.out,QeE];show k+1≤k+(if(42:UInt8)=42 then QbG l2+1 else 0);rw[if_pos rfl];omega
     have HL1:Hid (l=List.replicate (k+1) 42++l2):=Hi (by rw[HL0.out,List.replicate_succ'];simp);have hsz5:=HB.out.size;by_cases g1:c=1
     ·subst g1
      have h20:l2=[]:=by cases l2 with | nil=>rfl | cons a b=>simp at hlc
      subst h20
      go_wp2_with(at_builtin;refine appG sl321 rfl _ _ rfl (w.heap.size+2) _ _ _ rfl HAll.out.1 _ [.iface 388 (.agg #[])] rfl rfl (fun j u hj=>Qaa HAll.out.2.1 (by simpa using hj)) (fun v hv=>by rw[List.mem_singleton.1 hv];rfl) (by unfold maxLen;omega) (by omega) (by simp;omega) ?_)
      intro v9 w9 hO9 hg9 _;have hB9:Below w.heap.size w w9:=(Ext.grow (S:=fun _=>False) (.below HAll.out.2.2.2) HAll.out.1 hg9 (by omega)).toBelow (fun _ h=>h.elim) (Xb _);have hR9:=QaL HAll.out.2.2.1 HAll.out.1 hg9 (by omega);have hz9:=hg9.size;rw[HEq.out]at hO9;have HEND:Hid (PpIn w acc l (.slice (some ⟨b,o,none⟩) 0 0) v9 w9):=Hi ⟨k+1,[],HL1.out,hk1,⟨b,o,0,rfl,Xb _,Nat.zero_le _,fun j hj=>by simp at hj,hb2,hbB⟩,by rw[←Nat.add_assoc];exact hO9,hB9,hR9,by simp at hz9;omega⟩
      clear hO9 hB9 hR9 hg9 hz9
      go_wp2_with fail
      go_roundw
      case rel=>exact HEND.out
      case measure=>simp[QcH]
     ·go_wp2_with(at_builtin;refine appG sl321 rfl _ _ rfl (w.heap.size+2) _ _ _ rfl HAll.out.1 _ [.iface 388 (.agg #[])] rfl rfl (fun j u hj=>Qaa HAll.out.2.1 (by simpa using hj)) (fun v hv=>by rw[List.mem_singleton.1 hv];rfl) (by unfold maxLen;omega) (by omega) (by simp;omega) ?_)
      intro v9 w9 hO9 hg9 _;have hB9:Below w.heap.size w w9:=(Ext.grow (S:=fun _=>False) (.below HAll.out.2.2.2) HAll.out.1 hg9 (by omega)).toBelow (fun _ h=>h.elim) (Xb _);have hR9:=QaL HAll.out.2.2.1 HAll.out.1 hg9 (by omega);have hz9:=hg9.size;rw[HEq.out]at hO9;have hby9:BytesAt w9 b (o+1) l2:=by
       intro j hj;refine(QdX (p:=⟨b,o+1+j,none⟩) ?_).trans (HBY2.out j hj);have hbl:=QcN (HBY2.out j hj);simp only at hbl ⊢;rw[hg9.block b (by simp;omega) (fun e=>by have:=(Qa5 HAll.out.1 e.symm).1;omega),Below.heap_alloc _ _ _ hbl]
      have HEND:Hid (PpIn w acc l (.slice (some ⟨b,o+1,none⟩) l2.length (c-1)) v9 w9):=Hi ⟨k+1,l2,HL1.out,hk1,⟨b,o+1,c-1,rfl,by omega,by omega,hby9,hb2,hbB⟩,by rw[←Nat.add_assoc];exact hO9,hB9,hR9,by simp at hz9;omega⟩;clear hO9 hB9 hR9 hg9 hz9 hby9
      go_wp2_with fail
      go_roundw
      case rel=>exact HEND.out
      case measure=>simp[QcH]
    ·have hs0:QbG l'=0:=by
      cases l' with
      | nil=>rfl
      | cons x l2=>unfold QbG;rw[if_neg (fun e=>hst ⟨l2,by rw[e]⟩)]
     have hk:k=QbG l:=by rw[HL0.out,QeE,hs0];rfl
     have hd:l.drop (QbG l)=l':=by rw[←hk,HL0.out];exact rep_drop k l'
     have HPQ:Hid ((match uqM true l' with
      | none=>none
      | some r=>ppL f (acc++List.replicate k none++[some ⟨r.1.toArray⟩]) (l'.drop r.2))=ppL (l0.length+1) [] l0):=Hi (by have:=HPP.out;rw[ppL,if_neg hlne,hd,←hk]at this;exact this)
     have HPOS:Hid (∀r,uqM true l'=some r→l'≠[]→0<r.2):=Hi fun r h hne=>QhG hs0 hne h
     clear hs0 hk hd hks HPP;have hbw:b<wr.heap.size:=by omega
     have HT9:Hid (Lib.Utf8Tabs 1 2 wr):=Hi (Qbg HT.out (Ext.below (S:=fun _=>False) HB.out) (fun h=>h) (fun h=>h));have HUQ:=Hi (QeB l' b o c wr HT9.out HBY.out ⟨hb2,hbw⟩ (by omega) hlc hcm (eb:=base) (by omega));have hfst:(¬0<l'.length)∨∃x:UInt8,0<l'.length∧wr.cell? ⟨b,o,none⟩=some (.int .u8 (x.toNat:Int))∧((x.toNat:Int)==42)=false∧¬(x.toNat:Int)=42:=by
      cases l' with
      | nil=>exact .inl (Nat.lt_irrefl 0)
      | cons x l2 =>
       have hx:x.toNat≠42:=fun e=>hst ⟨l2,by rw[show x=42 from UInt8.toNat_inj.1 e]⟩
       have hc:=HBY.out 0 (by simp);rw[Nat.add_zero]at hc;exact .inr ⟨x,by simp,hc,by simp;omega,by omega⟩
     clear hst;rcases hfst with hnl | ⟨x,hpl,hcx,hx1,hx2⟩
     all_goals
      go_wp2_with fail
      refine HUQ.out.mono ?_;rintro e w2⟨B2,h2⟩;have HB2:=Hi (HB.out.trans (B2.mono HB.out.size));have HR2:=Hi ((B2.block _ (Qad HR.out)).trans HR.out);have HO2:=Hi (Qaj (S:=fun _=>False) HO.out (.below B2) (fun _ h=>h.elim));have HBY2:Hid (BytesAt w2 b o l'):=Hi (fun j hj=>(Ext.below (S:=fun _=>False) B2).cell (p:=⟨b,o+j,none⟩) (fun h=>h) (HBY.out j hj));have hz2:=B2.size;clear B2;cases hu:uqM true l' with
      | none =>
       rw[hu]at h2;have HN:Hid (Res=none):=Hi (by have:=HPQ.out;rw[hu]at this;rw[HP.out];unfold ppM;rw[←this];rfl);obtain⟨T,xe,rfl⟩:=h2;have hc0:w2.cell? ⟨w.heap.size,0,none⟩=some (.slice none 0 0):=Qaa HR2.out rfl;have hf0:=Qae HR2.out 0;clear hu
       go_wp2_with fail
       refine Qfm _ 2 3 (by kernel_rfl) rfl rfl rfl (Qac (o:=0) HR2.out _) ?_;rw[HN.out];exact⟨Qby (d:=w.heap.size) (o:=0) HB2.out (Xb _),_,_,_,_,xe.to (fun _ h=>Qiq h),rfl⟩
      | some r =>
       rw[hu]at h2;obtain⟨hr1,hr2,o3,c3,rfl,hr3,hr4,hr5⟩:=h2;have HPQ2:Hid (ppL f (acc++List.replicate k none++[some ⟨r.1.toArray⟩]) (l'.drop r.2)=ppL (l0.length+1) [] l0):=Hi (by have:=HPQ.out;rw[hu]at this;exact this);have HPOS2:Hid (l'≠[]→0<r.2):=Hi (HPOS.out r hu);obtain⟨r1,r2⟩:=r;simp only at hr1 hr2 hr3 hr4 hr5;have HBUF9:Hid (BufIs w2 (w.heap.size+2) (.slice (some ⟨b,o3,none⟩) (l'.length-r2) c3) (l'.drop r2)):=Hi ⟨b,o3,c3,by rw[List.length_drop],by rw[List.length_drop];exact hr4,Xe hr5 hcm,fun j hj=>by
        rw[List.length_drop]at hj;rw[hr3 (by omega)];exact HBY2.out.drop r2 j (by rw[List.length_drop];omega),hb2,hbB⟩
       clear hu hr3;obtain⟨p5,c5,rfl,_⟩:=RwU.own HO2.out;have BA:Below w2.heap.size w2 (w2.alloc (.cells #[.iface 131 (.string ⟨r1.toArray⟩)] 20)):=Qab w2 _;have hnew:=Xa w2 (.cells #[.iface 131 (.string ⟨r1.toArray⟩)] 20);have hOa:=Qaj (S:=fun _=>False) HO2.out (.below BA) (fun _ h=>h.elim);have hRa:=(BA.block _ (Qad HR2.out)).trans HR2.out;have hBa:=HB2.out.trans (BA.mono HB2.out.size);have HAll:=Hi (Xc hOa (Xc hnew (Xc hRa hBa)))
       clear hOa hnew hRa hBa BA;have hlenk:acc.length+k≤2000000:=by omega
       go_wp2_with(at_builtin;refine appG sl321 rfl _ _ rfl (w.heap.size+2) _ _ _ rfl HAll.out.1 _ [.iface 131 (.string ⟨r1.toArray⟩)] rfl rfl (fun j u hj=>Qaa HAll.out.2.1 (by simpa using hj)) (fun v hv=>by rw[List.mem_singleton.1 hv];rfl) (by unfold maxLen;omega) (by omega) (by simp;omega) ?_)
       intro v9 w9 hO9 hg9 _;have hB9:Below w.heap.size w w9:=(Ext.grow (S:=fun _=>False) (.below HAll.out.2.2.2) HAll.out.1 hg9 (by omega)).toBelow (fun _ h=>h.elim) (Xb _);have hR9:=QaL HAll.out.2.2.1 HAll.out.1 hg9 (by omega);have hz9:=hg9.size;have hbuf9:BufIs w9 (w.heap.size+2) (.slice (some ⟨b,o3,none⟩) (l'.length-r2) c3) (l'.drop r2):=by
        obtain⟨b',o',c',he,q1,q2,q3,q4,q5⟩:=HBUF9.out;refine⟨b',o',c',he,q1,q2,fun j hj=>?_,q4,q5⟩;refine(QdX (p:=⟨b',o'+j,none⟩) ?_).trans (q3 j hj);have hbl:=QcN (q3 j hj);simp only at hbl ⊢;rw[hg9.block b' (by simp;omega) (fun e=>by have:=(Qa5 HAll.out.1 e.symm).1;omega),Below.heap_alloc _ _ _ hbl]
       have hEq:Qd7 (acc++List.replicate k none)++[.iface 131 (.string ⟨r1.toArray⟩)]=Qd7 (acc++List.replicate k none++[some ⟨r1.toArray⟩]):=by rw[Qd7,Qd7,List.map_append (l₁:=acc++_)];rfl
       rw[hEq]at hO9;have hlt:r2=0→l'.length=0:=fun e=>by
        cases l' with
        | nil=>rfl
        | cons a b=>have:=HPOS2.out (by simp);omega
       have HEND:Hid (PpOut w (ppL (l0.length+1) [] l0) (.slice (some ⟨b,o3,none⟩) (l'.length-r2) c3) v9 w9):=Hi ⟨f,_,_,HPQ2.out,by rw[List.length_drop];omega,hbuf9,by rw[List.length_drop];omega,by simpa [Nat.add_assoc]using hO9,by simp;omega,fun s hs=>by
        simp at hs;rcases hs with h | h
        ·exact HSZ.out s h
        ·subst h;show r1.toArray.size≤1000000;simp;omega,hB9,hR9,by simp at hz9;omega⟩
       clear hO9 hB9 hR9 hg9 hz9 hbuf9 hEq
       go_wp2_with fail
       go_roundw
       case rel=>exact HEND.out
       case measure=>simp[QcH];omega
end Go.Proofs.Pg
namespace Go.Proofs.Pg
structure Good(ts:Toks):Prop where
 wf:Wf ts
 len:ts.length≤900000
 sz:∀k∈ts,k.tx.size≤1000000
theorem Good.sf{us ts:Toks}(h:Good ts)(hs:Sf us ts):Good us:=⟨hs.wf h.wf,Xe hs.len h.len,fun k hk=>h.sz k (hs.2.subset hk)⟩
theorem Good.adv{ts:Toks}(h:Good ts):Good (adv ts):=h.sf (Qam h.wf)
theorem Good.hd{ts:Toks}(h:Good ts):(hd ts).tx.size≤1000000:=by
 cases ts with
 | nil=>exact h.wf.elim
 | cons k ts=>exact h.sz k (by simp)
def OkF(m:Toks→Option (Ex×Toks)):Prop:=∀ts x us,Good ts→m ts=some (x,us)→OkE x
section
variable {L:Lex}{E:Toks→Option (Ex×Toks)}
theorem QhH(hE:Sh E)(hO:OkF E)(close:List UInt8):∀f acc ts l us,Good ts→(∀a∈acc,OkE a)→QaE E close f acc ts=some (l,us)→(∀a∈l,OkE a)∧l.length≤acc.length+f:=by
 intro f
 induction f with
 | zero=>intro r ts x us h _ he;cases he
 | succ f ih =>
  intro r ts x us h ha he;rw[QaE]at he;split at he
  ·cases he;exact⟨ha,by omega⟩
  ·split at he
   ·cases he
   ·rename_i y vs hv
    have h1:=h.sf (hE _ _ _ h.wf hv).1;have hy:=hO _ _ _ h hv;have ha':∀a∈r++[y],OkE a:=fun a hm=>(List.mem_append.1 hm).elim (ha a) (fun k=>by rw[List.mem_singleton.1 k];exact hy)
    split at he
    ·have:=ih _ _ _ _ h1.adv ha' he
     exact⟨this.1,by have h9:=this.2;rw[List.length_append,List.length_singleton]at h9;omega⟩
    ·split at he
     ·cases he;exact⟨ha',by rw[List.length_append,List.length_singleton];omega⟩
     ·cases he
theorem Qep(hE:Sh E)(hO:OkF E)(close:List UInt8){ts us:Toks}{l:List Ex}(h:Good ts)(he:Qbr E close ts=some (l,us)):(∀a∈l,OkE a)∧l.length≤900001:=by
 have:=QhH hE hO close _ _ _ _ _ h (fun a hm=>by cases hm) he;exact⟨this.1,by have h9:=this.2;have h8:=h.len;simp only[List.length_nil]at h9;omega⟩
theorem entry_ok(hO:OkF E){ts us:Toks}{p:ByteArray×Ex}(h:Good ts)(he:entry L E ts=some (p,us)):OkE p.2:=by
 rw[entry]at he;split at he
 ·cases he
 ·split at he
  ·cases he
  ·rename_i vs hv
   split at he
   ·cases he
   ·rename_i x ws hw
    cases he;exact hO _ _ _ (h.adv.sf (QaC h.adv.wf hv)) hw
theorem recdL_ok(hE:Sh E)(hO:OkF E):∀f acc ts l us,Good ts→(∀a∈acc,OkE a.2)→Qbz L E f acc ts=some (l,us)→(∀a∈l,OkE a.2)∧l.length≤acc.length+f:=by
 intro f
 induction f with
 | zero=>intro r ts x us h _ he;cases he
 | succ f ih =>
  intro r ts x us h ha he;rw[Qbz]at he;split at he
  ·cases he;exact⟨ha,by omega⟩
  ·split at he
   ·cases he
   ·rename_i k y vs hv
    have h1:=h.sf (QdY hE _ _ _ h.wf hv);have hy:=entry_ok hO h hv;have ha':∀a∈r++[(k,y)],OkE a.2:=fun a hm=>(List.mem_append.1 hm).elim (ha a) (fun k=>by rw[List.mem_singleton.1 k];exact hy)
    split at he
    ·cases he
    ·split at he
     ·have:=ih _ _ _ _ h1.adv ha' he
      exact⟨this.1,by have h9:=this.2;rw[List.length_append,List.length_singleton]at h9;omega⟩
     ·split at he
      ·cases he;exact⟨ha',by rw[List.length_append,List.length_singleton];omega⟩
      ·cases he
theorem recd_ok(hE:Sh E)(hO:OkF E){ts us:Toks}{l:List (ByteArray×Ex)}(h:Good ts)(he:recd L E ts=some (l,us)):(∀a∈l,OkE a.2)∧l.length≤900001:=by
 have:=recdL_ok hE hO _ _ _ _ _ h (fun a hm=>by cases hm) he;exact⟨this.1,by have h9:=this.2;have h8:=h.len;simp only[List.length_nil]at h9;omega⟩
theorem Qgl(hE:Sh E)(hO:OkF E):∀f r,OkF (Qa1 L E f r):=by
 intro f
 induction f with
 | zero=>intro r ts x us h he;cases he
 | succ f ih =>
  intro r ts x us h he;rw[Qa1]at he;split at he
  ·split at he
   ·exact ih _ _ _ _ h.adv.adv he
   ·split at he
    ·split at he
     ·cases he
     ·cases he;exact .val _
    ·cases he
  ·split at he
   ·split at he
    ·split at he
     ·cases he
     ·rename_i l vs hv
      cases he;have h1:=Qep hE hO _ h.adv hv;exact .call (by have:=h1.2;omega) h1.1
    ·cases he
   ·cases he
theorem vars_ok{s:List UInt8}{x:Ex}(h:vars s=some x):OkE x:=by
 unfold vars at h
 repeat' split at h
 all_goals first | (cases h;exact .var _) | cases h
theorem Qgm(hE:Sh E)(hO:OkF E):OkF (primary L E):=by
 intro ts x us h he;rw[primary]at he;split at he
 ·split at he
  ·cases he
  ·cases he;exact .val _
 split at he
 ·split at he
  ·cases he
  ·cases he;exact .val _
 split at he
 ·cases he;exact .val _
 split at he
 ·cases he;exact .val _
 split at he
 ·split at he
  ·exact Qgl hE hO _ _ _ _ _ h.adv he
  ·split at he
   ·cases he
   ·rename_i y hy
    cases he;exact vars_ok hy
 split at he
 ·split at he
  ·cases he
  ·rename_i y vs hv
   have h1:=hO _ _ _ h.adv hv;split at he
   ·cases he
   ·cases he
    exact h1
 split at he
 ·split at he
  ·cases he
  ·rename_i l vs hv
   cases he;have h1:=Qep hE hO _ h.adv hv;exact .set (by have:=h1.2;omega) h1.1
 split at he
 ·split at he
  ·cases he
  ·rename_i l vs hv
   cases he;have h1:=recd_ok hE hO h.adv hv;exact .recd (by have:=h1.2;omega) h1.1
 cases he
theorem QeF{op:Nat}{lhs x:Ex}{l:List Ex}(hop:(op,binC op)∈binT)(h1:OkE lhs)(hl:∀a∈l,OkE a)(h:one op lhs l=some x):OkE x:=by
 unfold one at h;split at h
 ·cases h;exact .bin hop h1 (hl _ (by simp))
 ·cases h
theorem QhI{name:ByteArray}{lhs x:Ex}{l:List Ex}(h1:OkE lhs)(hl:∀a∈l,OkE a)(hn:l.length≤900001)(h:method L name lhs l=some x):OkE x:=by
 unfold method at h;split at h
 ·exact QeF (by decide) h1 hl h
 split at h
 ·exact QeF (by decide) h1 hl h
 split at h
 ·exact QeF (by decide) h1 hl h
 split at h
 ·exact QeF (by decide) h1 hl h
 split at h
 ·exact QeF (by decide) h1 hl h
 split at h
 ·split at h
  ·cases h;exact .una (by decide) h1
  ·cases h
 split at h
 ·cases h
  exact .call (by simp;omega) (fun a hm=>by rcases List.mem_cons.1 hm with rfl | hm;exact h1;exact hl a hm)
 ·cases h
theorem QhJ(hE:Sh E)(hO:OkF E){lhs:Ex}(h1:OkE lhs){ts us:Toks}{x:Ex}(h:Good ts)(he:access L E lhs ts=some (some (x,us))):OkE x:=by
 rw[access]at he;split at he
 ·split at he
  ·split at he
   ·split at he
    ·cases he
    ·rename_i l vs hv
     have h2:=Qep hE hO _ h.adv.adv.adv hv;split at he
     ·cases he
     ·rename_i y hy
      cases he;exact QhI h1 h2.1 h2.2 hy
   ·cases he;exact .sop (by decide) h1
  ·cases he
 split at he
 ·split at he
  ·split at he
   ·cases he
   ·split at he
    ·cases he
    ·cases he
     exact .sop (by decide) h1
  ·cases he
 cases he
theorem memL_ok(hE:Sh E)(hO:OkF E):∀f y,OkE y→OkF (memL L E f y):=by
 intro f
 induction f with
 | zero=>intro r _ ts x us h he;cases he
 | succ f ih =>
  intro r hr ts x us h he;rw[memL]at he;split at he
  ·cases he
  ·cases he;exact hr
  ·rename_i y vs hv
   have h1:=QhJ hE hO hr h hv;exact ih _ h1 _ _ _ (h.sf (Qdm hE _ _ _ _ h.wf hv).1) he
theorem QhK(hE:Sh E)(hO:OkF E):OkF (member L E):=by
 intro ts x us h he;rw[member]at he;split at he
 ·cases he
 ·rename_i y vs hv
  exact memL_ok hE hO _ _ (Qgm hE hO _ _ _ h hv) _ _ _ (h.sf (QcS hE _ _ _ h.wf hv).1) he
theorem Qd8:∀(l:List Bool){x:Ex},OkE x→OkE (signed l x)
 | [],_,h=>h
 | b::l,x,h=>by
  have h1:=Qd8 l h;show OkE (if b=true then .una 208 (signed l x)else .una 209 (signed l x));split
  ·exact .una (by decide) h1
  ·exact .una (by decide) h1
theorem QfF(hE:Sh E)(hO:OkF E):OkF (unary L E):=by
 intro ts x us h he;rw[unary]at he;have h0:=h.sf (Qg6 (ts.length+1) [] ts h.wf);split at he
 ·split at he
  ·cases he
  ·cases he
   exact Qd8 _ (.val _)
 ·split at he
  ·cases he
  ·rename_i y vs hv
   cases he;exact Qd8 _ (QhK hE hO _ _ _ h0 hv)
theorem multL_ok(hE:Sh E)(hO:OkF E):∀f y,OkE y→OkF (Qcj L E f y):=by
 intro f
 induction f with
 | zero=>intro r _ ts x us h he;cases he
 | succ f ih =>
  intro r hr ts x us h he;rw[Qcj]at he;split at he
  ·split at he
   ·cases he
   ·rename_i y vs hv
    exact ih _ (.bin (by decide) hr (QfF hE hO _ _ _ h.adv hv)) _ _ _ (h.adv.sf (Qcw hE _ _ _ h.adv.wf hv).1) he
  ·cases he;exact hr
theorem Qfn(hE:Sh E)(hO:OkF E):OkF (mult L E):=by
 intro ts x us h he;rw[mult]at he;split at he
 ·cases he
 ·rename_i y vs hv
  exact multL_ok hE hO _ _ (QfF hE hO _ _ _ h hv) _ _ _ (h.sf (Qcw hE _ _ _ h.wf hv).1) he
theorem addL_ok(hE:Sh E)(hO:OkF E):∀f y,OkE y→OkF (addL L E f y):=by
 intro f
 induction f with
 | zero=>intro r _ ts x us h he;cases he
 | succ f ih =>
  intro r hr ts x us h he;rw[addL]at he;split at he
  ·split at he
   ·cases he
   ·rename_i y vs hv
    exact ih _ (.bin (by decide) hr (Qfn hE hO _ _ _ h.adv hv)) _ _ _ (h.adv.sf (Qca hE _ _ _ h.adv.wf hv).1) he
  ·split at he
   ·split at he
    ·cases he
    ·rename_i y vs hv
     exact ih _ (.bin (by decide) hr (Qfn hE hO _ _ _ h.adv hv)) _ _ _ (h.adv.sf (Qca hE _ _ _ h.adv.wf hv).1) he
   ·cases he;exact hr
theorem QhL(hE:Sh E)(hO:OkF E):OkF (add L E):=by
 intro ts x us h he;rw[add]at he;split at he
 ·cases he
 ·rename_i y vs hv
  exact addL_ok hE hO _ _ (Qfn hE hO _ _ _ h hv) _ _ _ (h.sf (Qca hE _ _ _ h.wf hv).1) he
theorem hasL_ok:∀f r c,OkE r→OkE c→OkF (hasL f r c):=by
 intro f
 induction f with
 | zero=>intro r c _ _ ts x us h he;cases he
 | succ f ih =>
  intro r c hr hc ts x us h he;rw[hasL]at he;split at he
  ·split at he
   ·exact ih _ _ (.bin (by decide) hr (.sop (by decide) hc)) (.sop (by decide) hc) _ _ _ h.adv.adv he
   ·cases he
  ·cases he;exact hr
theorem has_ok{lhs:Ex}(h1:OkE lhs):OkF (has L lhs):=by
 intro ts x us h he;rw[has]at he;split at he
 ·exact hasL_ok _ _ _ (.sop (by decide) h1) (.sop (by decide) h1) _ _ _ h.adv he
 ·split at he
  ·split at he
   ·cases he
   ·cases he;exact .sop (by decide) h1
  ·cases he
theorem like_ok(hP:∀s p,s.size≤1000000→L.pat s=some p→p.length≤10000000){lhs:Ex}(h1:OkE lhs):OkF (like L lhs):=by
 intro ts x us h he;rw[like]at he;split at he
 ·split at he
  ·cases he
  ·rename_i p hp
   cases he;exact .like (hP _ _ h.hd hp) h1
 ·cases he
theorem is_ok(hE:Sh E)(hO:OkF E){lhs:Ex}(h1:OkE lhs):OkF (is L E lhs):=by
 intro ts x us h he;rw[Pg.is]at he;split at he
 ·cases he
 ·rename_i p vs hv
  have w1:=h.sf (QcR _ _ _ h.wf hv).1;split at he
  ·split at he
   ·cases he
   ·rename_i y ws hw
    cases he;exact .isIn h1 (QhL hE hO _ _ _ w1.adv hw)
  ·cases he
   exact .sop (by decide) h1
theorem relOp_ok{s:List UInt8}{op:Nat}(h:QbM s=some op):(op,binC op)∈binT:=by
 unfold QbM at h
 repeat' split at h
 all_goals first | (cases h;decide) | cases h
theorem Qd9(hP:∀s p,s.size≤1000000→L.pat s=some p→p.length≤10000000)(hE:Sh E)(hO:OkF E):OkF (relation L E):=by
 intro ts x us h he;rw[relation]at he;split at he
 ·cases he
 ·rename_i y vs hv
  have h1:=QhL hE hO _ _ _ h hv;have w1:=h.sf (Qer hE _ _ _ h.wf hv).1;split at he
  ·exact has_ok h1 _ _ _ w1.adv he
  split at he
  ·exact like_ok hP h1 _ _ _ w1.adv he
  split at he
  ·exact is_ok hE hO h1 _ _ _ w1.adv he
  split at he
  ·cases he;exact h1
  ·rename_i op hop
   split at he
   ·cases he
   ·rename_i z zs hz
    cases he;exact .bin (relOp_ok hop) h1 (QhL hE hO _ _ _ w1.adv hz)
theorem andL_ok(hP:∀s p,s.size≤1000000→L.pat s=some p→p.length≤10000000)(hE:Sh E)(hO:OkF E):∀f y,OkE y→OkF (andL L E f y):=by
 intro f
 induction f with
 | zero=>intro r _ ts x us h he;cases he
 | succ f ih =>
  intro r hr ts x us h he;rw[andL]at he;split at he
  ·split at he
   ·cases he
   ·rename_i y vs hv
    exact ih _ (.bin (by decide) hr (Qd9 hP hE hO _ _ _ h.adv hv)) _ _ _ (h.adv.sf (Qbu hE _ _ _ h.adv.wf hv).1) he
  ·cases he;exact hr
theorem and_ok(hP:∀s p,s.size≤1000000→L.pat s=some p→p.length≤10000000)(hE:Sh E)(hO:OkF E):OkF (Pg.and L E):=by
 intro ts x us h he;rw[Pg.and]at he;split at he
 ·cases he
 ·rename_i y vs hv
  exact andL_ok hP hE hO _ _ (Qd9 hP hE hO _ _ _ h hv) _ _ _ (h.sf (Qbu hE _ _ _ h.wf hv).1) he
theorem orL_ok(hP:∀s p,s.size≤1000000→L.pat s=some p→p.length≤10000000)(hE:Sh E)(hO:OkF E):∀f y,OkE y→OkF (orL L E f y):=by
 intro f
 induction f with
 | zero=>intro r _ ts x us h he;cases he
 | succ f ih =>
  intro r hr ts x us h he;rw[orL]at he;split at he
  ·split at he
   ·cases he
   ·rename_i y vs hv
    exact ih _ (.bin (by decide) hr (and_ok hP hE hO _ _ _ h.adv hv)) _ _ _ (h.adv.sf (QdJ hE _ _ _ h.adv.wf hv).1) he
  ·cases he;exact hr
theorem or_ok(hP:∀s p,s.size≤1000000→L.pat s=some p→p.length≤10000000)(hE:Sh E)(hO:OkF E):OkF (Pg.or L E):=by
 intro ts x us h he;rw[Pg.or]at he;split at he
 ·cases he
 ·rename_i y vs hv
  exact orL_ok hP hE hO _ _ (and_ok hP hE hO _ _ _ h hv) _ _ _ (h.sf (QdJ hE _ _ _ h.wf hv).1) he
theorem exprB_ok(hP:∀s p,s.size≤1000000→L.pat s=some p→p.length≤10000000)(hE:Sh E)(hO:OkF E):OkF (QbH L E):=by
 intro ts x us h he;rw[QbH]at he;split at he
 ·split at he
  ·cases he
  ·rename_i y vs hv
   have h1:=hO _ _ _ h.adv hv;have w1:=h.adv.sf (hE _ _ _ h.adv.wf hv).1;split at he
   ·cases he
   ·rename_i us2 h2
    have w2:=w1.sf (QaC w1.wf h2);split at he
    ·cases he
    ·rename_i z zs hz
     have h3:=hO _ _ _ w2 hz;have w3:=w2.sf (hE _ _ _ w2.wf hz).1;split at he
     ·cases he
     ·rename_i us4 h4
      have w4:=w3.sf (QaC w3.wf h4);split at he
      ·cases he
      ·rename_i q qs hq
       cases he;exact .ite h1 h3 (hO _ _ _ w4 hq)
 ·exact or_ok hP hE hO _ _ _ h he
end
theorem QhM{L:Lex}(hP:∀s p,s.size≤1000000→L.pat s=some p→p.length≤10000000):∀f,OkF (expr L f)
 | 0=>fun ts x us _ he=>by cases he
 | f+1=>exprB_ok hP (QdZ f) (QhM hP f)
theorem npM_len(l:List (Option ByteArray)):(npM l).length≤l.length:=by
 have key:∀(l:List (Option ByteArray))(acc:Pats),(l.foldl QcG acc).length≤acc.length+l.length:=by
  intro l
  induction l with
  | nil=>intro acc;exact Xb _
  | cons c l ih =>
   intro acc;have h1:=ih (QcG acc c);have h2:(QcG acc c).length≤acc.length+1:=by
    unfold QcG;cases c with
    | some s =>
     cases h:acc.getLast? with
     | none=>simp
     | some p=>simp only[List.length_append,List.length_dropLast,List.length_cons,List.length_nil];omega
    | none =>
     cases h:acc.getLast? with
     | none=>simp
     | some p =>
      simp only;split
      ·omega
      ·rw[List.length_append,List.length_singleton];omega
   rw[List.foldl_cons,List.length_cons];omega
 have:=key l [];rw[List.length_nil,Nat.zero_add]at this;exact this
theorem QhN:∀(f:Nat)(acc:List (Option ByteArray))(l:List UInt8)(r:List (Option ByteArray)),ppL f acc l=some r→r.length≤acc.length+2*l.length
 | 0,_,_,_,h=>by cases h
 | f+1,acc,l,r,h=>by
  rw[ppL]at h;split at h
  ·cases h;omega
  ·rename_i hl
   split at h
   ·cases h
   ·rename_i q hq
    have h1:=QhN f _ _ _ h;have h2:=QfE l;have h4:0<l.length:=List.length_pos_iff.2 hl;simp only[List.length_append,List.length_replicate,List.length_cons,List.length_nil,List.length_drop]at h1;by_cases hd:l.drop (QbG l)=[]
    ·have:=congrArg List.length hd
     simp at this;omega
    ·have h3:=QhG (QdO l) hd hq
     have:=List.length_pos_iff.2 hd;simp at this;omega
theorem patM_len{s:ByteArray}{p:Pats}(hs:s.size≤1000000)(h:patM s=some p):p.length≤10000000:=by
 unfold patM ppM at h;cases hp:ppL ((Qdn s).data.toList.length+1) [] (Qdn s).data.toList with
 | none=>rw[hp]at h;cases h
 | some r =>
  rw[hp]at h;have h1:=QhN _ _ _ _ hp;have h2:=Qeo (Lib.trimPrefix s.data.toList [34]) [34];have h3:=Qdl s.data.toList [34];have h4:s.data.toList.length=s.size:=rfl;have h5:(Qdn s).data.toList.length≤1000000:=by
   show(Lib.trimSuffix (Lib.trimPrefix s.data.toList [34]) [34]).length≤1000000;omega
  simp only[Option.map_some,Option.some.injEq]at h;subst h;have h6:=npM_len (if r=[]then [some ⟨#[]⟩]else r);split at h6
  ·simp at h6;simp_all;omega
  ·simp only[List.length_nil,Nat.zero_add]at h1
   rename_i hr;simp only[if_neg hr];omega
end Go.Proofs.Pg
