/- FnPolicyCut, part 16. -/
import Derived.Test.YtmhjkkkhdlnngaaGreatDoorP08
import Derived.Test.YtmhjkkkhdlnngaaGreatDoorP15
set_option linter.all false
set_option maxRecDepth 100000
set_option maxHeartbeats 0
namespace Go.Proofs.Pg
open Go.RowKit Go.Proofs.Tryz
attribute [local go_sem] Oper.semAt_some
def isWs(c:Int):Bool:=c==9||c==10||c==13||c==32
def Qe1(c:Int):Bool:=(decide (65≤c)&&decide (c≤90))||(decide (97≤c)&&decide (c≤122))
def QaZ(c:Int):Bool:=decide (48≤c)&&decide (c≤57)
def isId(c:Int)(first:Bool):Bool:=c==95||Qe1 c||(QaZ c&&!first)
theorem ws_c(c:Int)(w:World):Calls prog 122 #[.int .i32 c] w fun e w'=>e=.returned (.bool (isWs c))∧w'=w:=by
 have HI:=Hi (show isWs c=(c==9||c==10||c==13||c==32)from rfl);generalize isWs c=B at *;go_enter func122,ntmps122;go_wp2
 all_goals(go_ret;exact⟨by rw[HI.out];simp_all,rfl⟩)
theorem num_c(c:Int)(w:World):Calls prog 163 #[.int .i32 c] w fun e w'=>e=.returned (.bool (QaZ c))∧w'=w:=by
 have HI:=Hi (show QaZ c=(decide (48≤c)&&decide (c≤57))from rfl);generalize QaZ c=B at *;by_cases h1:48≤c
 all_goals by_cases h2:c≤57
 all_goals
  go_enter func163,ntmps163;go_wp2
  all_goals(go_ret;exact⟨by rw[HI.out];simp_all,rfl⟩)
theorem Qhj(c:Int)(w:World):Calls prog 126 #[.int .i32 c] w fun e w'=>e=.returned (.bool (QaZ c))∧w'=w:=by
 have HI:=Hi (show QaZ c=(decide (48≤c)&&decide (c≤57))from rfl);generalize QaZ c=B at *;by_cases h1:48≤c
 all_goals by_cases h2:c≤57
 all_goals
  go_enter func126,ntmps126;go_wp2
  all_goals(go_ret;exact⟨by rw[HI.out];simp_all,rfl⟩)
theorem let_c(c:Int)(w:World):Calls prog 162 #[.int .i32 c] w fun e w'=>e=.returned (.bool (Qe1 c))∧w'=w:=by
 have HI:=Hi (show Qe1 c=((decide (65≤c)&&decide (c≤90))||(decide (97≤c)&&decide (c≤122)))from rfl);generalize Qe1 c=B at *;by_cases h1:65≤c
 all_goals by_cases h2:c≤90
 all_goals by_cases h3:97≤c
 all_goals by_cases h4:c≤122
 all_goals
  go_enter func162,ntmps162;go_wp2
  all_goals(go_ret;exact⟨by rw[HI.out];simp_all,rfl⟩)
theorem id_c(c:Int)(f:Bool)(w:World):Calls prog 124 #[.int .i32 c,.bool f] w fun e w'=>e=.returned (.bool (isId c f))∧w'=w:=by
 have HI:=Hi (show isId c f=(c==95||Qe1 c||(QaZ c&&!f))from rfl);have HL:Hid (∀w,Calls prog 162 #[.int .i32 c] w fun e w'=>e=.returned (.bool (Qe1 c))∧w'=w):=Hi (let_c c);have HN:Hid (∀w,Calls prog 163 #[.int .i32 c] w fun e w'=>e=.returned (.bool (QaZ c))∧w'=w):=Hi (num_c c);generalize isId c f=B at *;generalize Qe1 c=L at *;generalize QaZ c=N at *;cases h0:(c==95)
 all_goals cases L
 all_goals cases N
 all_goals cases f
 all_goals
  go_enter func124,ntmps124
  go_wp2_with(first | (go_at_call 162;refine(HL.out _).mono ?_;rintro e w' ⟨rfl,rfl⟩) | (go_at_call 163;refine(HN.out _).mono ?_;rintro e w' ⟨rfl,rfl⟩))
  go_ret;exact⟨by rw[HI.out];simp_all,rfl⟩
end Go.Proofs.Pg
namespace Go.Proofs.Pg
open Go.RowKit
attribute [local go_sem] Oper.semAt_some
section
variable (t:List UInt8)
abbrev Cs:=Int×Sc
def rem(σ:Sc):Nat:=t.length-σ.p
def mu(s:Cs):Nat:=if s.1=-1 then 0 else rem t s.2+1
def idL:Nat→Cs→Cs
 | 0,s=>s
 | f+1,s=>if isId s.1 false=true then idL f (nxt t s.2)else s
def Qc3(σ:Sc):Cs:=idL t (t.length+2) (nxt t σ)
def numL:Nat→Cs→Cs
 | 0,s=>s
 | f+1,s=>if QaZ s.1=true then numL f (nxt t s.2)else s
def QbN(s:Cs):Cs:=numL t (t.length+2) s
def Qc9(c:Int):Int:=bits .or .i32 32 c
def Qc1(c:Int):Bool:=QaZ c||(decide (97≤Qc9 c)&&decide (Qc9 c≤102))
def err(s:Cs):Cs:=(s.1,{s.2 with er:=true})
def hexL:Nat→Nat→Cs→Nat×Cs
 | 0,n,s=>(n,s)
 | f+1,n,s=>if Qc1 s.1=true then hexL f (n+1) (nxt t s.2)else(n,s)
def Qbj(mn mx:Nat)(s:Cs):Cs:=let p:=hexL t mx 0 s;if p.1<mn then err p.2 else p.2
def QbB(c:Int):Bool:=c==110||c==114||c==116||c==92||c==48||c==39||c==34||c==42
def Qbn(σ:Sc):Cs :=
 let s:=nxt t σ
 if QbB s.1=true then nxt t s.2
 else if s.1=120 then Qbj t 2 2 (nxt t s.2)
 else if s.1=117 then(let u:=nxt t s.2;if u.1=123 then(let v:=Qbj t 1 6 (nxt t u.2);if v.1=125 then nxt t v.2 else err v)else err u)
 else err s
def strL:Nat→Cs→Sc
 | 0,s=>s.2
 | f+1,s=>if s.1=34 then s.2 else if s.1=10∨s.1<0 then(err s).2 else if s.1=92 then strL f (Qbn t s.2)else strL f (nxt t s.2)
def QbC(σ:Sc):Sc:=strL t (t.length+2) (nxt t σ)
def lineL:Nat→Cs→Cs
 | 0,s=>s
 | f+1,s=>if s.1≠10∧0≤s.1 then lineL f (nxt t s.2)else s
def comL:Nat→Cs→Cs
 | 0,s=>s
 | f+1,s=>if s.1<0 then err s else let u:=nxt t s.2;if s.1=42∧u.1=47 then nxt t u.2 else comL f u
def QaT(s:Cs):Cs:=if s.1=47 then lineL t (t.length+2) (nxt t s.2)else comL t (t.length+2) (nxt t s.2)
def Qee(c:Int):Bool:=c==64||c==46||c==44||c==59||c==40||c==41||c==123||c==125||c==91||c==93||c==43||c==45||c==42
def Qbo(c0:Int)(s:Cs):Int×Cs :=
 if Qee c0=true then(5,s)
 else if c0=58 then(5,if s.1=58 then nxt t s.2 else s)
 else if c0=33∨c0=60∨c0=62 then(5,if s.1=61 then nxt t s.2 else s)
 else if c0=61∨c0=124∨c0=38 then(if s.1=c0 then(5,nxt t s.2)else(6,s))
 else(6,s)
def wsL:Nat→Cs→Cs
 | 0,s=>s
 | f+1,s=>if isWs s.1=true then wsL f (nxt t s.2)else s
def QaA(s:Cs):Cs:=wsL t (t.length+2) s
end
theorem nxt_p{t:List UInt8}{σ:Sc}(h:σ.p<t.length):σ.p<(nxt t σ).2.p∧(nxt t σ).2.p≤t.length:=by
 have hne:t.drop σ.p≠[]:=by intro e;have:=congrArg List.length e;rw[List.length_drop]at this;simp at this;omega
 have hw:=Qco hne;rw[List.length_drop]at hw;unfold nxt;rw[if_neg (by omega)]
 repeat' split
 all_goals(simp only;omega)
theorem Qhk{t:List UInt8}{σ:Sc}(h:t.length≤σ.p):(nxt t σ).1=-1∧(nxt t σ).2.p=σ.p:=by
 unfold nxt;rw[if_pos h];exact⟨rfl,rfl⟩
theorem Qbk(t:List UInt8)(σ:Sc):mu t (nxt t σ)≤rem t σ:=by
 unfold mu rem;by_cases h:σ.p<t.length
 ·have:=nxt_p h
  split<;>omega
 ·rw[if_pos (Qhk (by omega)).1];omega
theorem Qbc{t:List UInt8}{c:Int}{σ:Sc}(h:c≠-1):mu t (c,σ)=rem t σ+1:=by unfold mu;rw[if_neg h]
end Go.Proofs.Pg
namespace Go.Proofs.Pg
open Go.RowKit Go.Proofs.Tryz
attribute [local go_sem] Oper.semAt_some
def Scn(w:World)(b:Nat)(s:ByteArray)(p:Nat):Prop:=p≤s.size∧∃ln col:Int,w.heap[b]? =some (.cells #[.string s,.int .i64 p,.int .i64 ln,.int .i64 col] 151 (0,0))
theorem Scn.ext{w w':World}{b p:Nat}{s:ByteArray}{S:Nat→Prop}(h:Scn w b s p)(he:Ext S w w')(hs:¬S b):Scn w' b s p:=by
 obtain⟨h1,ln,col,h2⟩:=h;exact⟨h1,ln,col,he.heap hs h2⟩
theorem scn1{w:World}{b:Nat}{s:ByteArray}{x y z:Int}(h:w.heap[b]? =some (.cells #[.string s,.int .i64 x,.int .i64 y,.int .i64 z] 151 (0,0)))(v:Int):(w.setCell ⟨b,1,none⟩ (.int .i64 v)).heap[b]? =some (.cells #[.string s,.int .i64 v,.int .i64 y,.int .i64 z] 151 (0,0)):=by simpa using Qac (o:=1) h (.int .i64 v)
theorem scn2{w:World}{b:Nat}{s:ByteArray}{x y z:Int}(h:w.heap[b]? =some (.cells #[.string s,.int .i64 x,.int .i64 y,.int .i64 z] 151 (0,0)))(v:Int):(w.setCell ⟨b,2,none⟩ (.int .i64 v)).heap[b]? =some (.cells #[.string s,.int .i64 x,.int .i64 v,.int .i64 z] 151 (0,0)):=by simpa using Qac (o:=2) h (.int .i64 v)
theorem scn3{w:World}{b:Nat}{s:ByteArray}{x y z:Int}(h:w.heap[b]? =some (.cells #[.string s,.int .i64 x,.int .i64 y,.int .i64 z] 151 (0,0)))(v:Int):(w.setCell ⟨b,3,none⟩ (.int .i64 v)).heap[b]? =some (.cells #[.string s,.int .i64 x,.int .i64 y,.int .i64 v] 151 (0,0)):=by simpa using Qac (o:=3) h (.int .i64 v)
theorem Qj5{w w':World}(h:Below w.drew.heap.size w.drew w'):Below w.heap.size w w':=⟨h.os,h.tape,h.output,h.size,h.block⟩
theorem Qj0{w:World}{b p:Nat}{s:ByteArray}(h:Scn w b s p)(hT:Lib.Utf8Tabs 1 2 w)(hs:s.size≤3000) :
  Calls prog 78 #[.pointer (some ⟨b,0,none⟩)] w fun e w'=>(∃(c:Int)(k:Bool),e=.returned (.tuple #[.int .i32 c,.bool k])∧c=((Lib.decodeGo (s.extract p s.size)).1:Int))∧Below w.heap.size w w':=by
 obtain⟨hp,ln,col,hb⟩:=h;have c0:w.cell? ⟨b,0,none⟩=some (.string s):=Qaa hb rfl;have c1:w.cell? ⟨b,1,none⟩=some (.int .i64 p):=Qaa hb rfl;clear hb;have HD:=Hi (Tryz.utf8_DecodeRuneInString (s.extract p s.size) w.drew (Qbg hT (Ext.refl (fun _=>False) w).drew (fun h=>h) (fun h=>h)));clear hT;obtain⟨R,hR⟩:∃R:Int,((Lib.decodeGo (s.extract p s.size)).1:Int)=R:=⟨_,rfl⟩
 obtain⟨K,hK⟩:∃K:Int,((Lib.decodeGo (s.extract p s.size)).2:Int)=K:=⟨_,rfl⟩
 simp only[hR,hK]at HD;have HN:=Hi hR;clear hR hK;go_enter func78,ntmps78
 go_wp2_with fail
 go_region_with(go_at_call 119;refine HD.out.mono ?_;rintro e w1 ⟨rfl,B1⟩)
 all_goals
  have HB:=Hi (Qj5 B1);clear B1
  go_wp2_with fail
  all_goals
   go_ret2
   exact⟨⟨_,_,rfl,by have:=HN.out;omega⟩,HB.out⟩
theorem Qjo{w:World}{b p:Nat}{s:ByteArray}(h:Scn w b s p)(hT:Lib.Utf8Tabs 1 2 w)(hs:s.size≤3000) :
  Calls prog 79 #[.pointer (some ⟨b,0,none⟩)] w fun e w'=>e=.returned (.tuple #[])∧Ext (·=b) w w'∧∃q,Scn w' b s q∧p≤q∧(p<s.size→p<q):=by
 obtain⟨hp,ln,col,hb⟩:=h;have c0:w.cell? ⟨b,0,none⟩=some (.string s):=Qaa hb rfl;have c1:w.cell? ⟨b,1,none⟩=some (.int .i64 p):=Qaa hb rfl;have HBk:=Hi hb;clear hb;have HD:=Hi (Tryz.utf8_DecodeRuneInString (s.extract p s.size) w.drew (Qbg hT (Ext.refl (fun _=>False) w).drew (fun h=>h) (fun h=>h)));clear hT;obtain⟨c,n,hdd⟩:∃c n,Lib.decodeGo (s.extract p s.size)=(c,n):=⟨_,_,rfl⟩
 have hn:p+n≤s.size∧(p<s.size→1≤n):=by
  by_cases he:p=s.size
  ·have:=Qj8 (s:=s.extract p s.size) (by rw[ByteArray.size_extract];omega)
   rw[hdd]at this;cases this;exact⟨by omega,by omega⟩
  ·have:=Qkq (s:=s.extract p s.size) (by rw[ByteArray.size_extract];omega)
   rw[hdd,ByteArray.size_extract]at this;exact⟨by simp at this;omega,fun _=>this.1⟩
 rw[hdd]at HD;clear hdd;go_enter func79,ntmps79
 go_wp2_with fail
 go_region_with(go_at_call 119;refine HD.out.mono ?_;rintro e w1 ⟨rfl,B1⟩)
 all_goals
  have B2:=Qj5 B1;have hb1:=(B2.block _ (Qad HBk.out)).trans HBk.out;have d1:w1.cell? ⟨b,1,none⟩=some (.int .i64 p):=Qaa hb1 rfl;have d2:w1.cell? ⟨b,2,none⟩=some (.int .i64 ln):=Qaa hb1 rfl;have d3:w1.cell? ⟨b,3,none⟩=some (.int .i64 col):=Qaa hb1 rfl;have f1:=Qae hb1 1;have f2:=Qae hb1 2;have f3:=Qae hb1 3;have HB:=Hi B2;have HBk1:=Hi hb1;clear B1 B2 hb1 c0 c1;by_cases h10:(c:Int)=10
  ·go_wp2_with fail
   go_end0
   refine⟨rfl,((((Ext.below HB.out:Ext (·=b) w w1).setb 1 _).setb 3 _).setb 2 _).setb 3 _,p+n,⟨hn.1,?_⟩,Nat.le_add_right _ _,fun h=>by have:=hn.2 h;omega⟩;rw[Int.natCast_add];exact⟨_,_,scn3 (scn2 (scn3 (scn1 HBk1.out _) _) _) _⟩
  ·go_wp2_with fail
   go_end0
   refine⟨rfl,((Ext.below HB.out:Ext (·=b) w w1).setb 1 _).setb 3 _,p+n,⟨hn.1,?_⟩,Nat.le_add_right _ _,fun h=>by have:=hn.2 h;omega⟩;rw[Int.natCast_add];exact⟨_,_,scn3 (scn1 HBk1.out _) _⟩
def atW(b:Nat)(w:World):Nat:=match w.cell? ⟨b,1,none⟩with
 | some (.int _ x)=>x.toNat
 | _=>0
theorem Scn.atW{w:World}{b p:Nat}{s:ByteArray}(h:Scn w b s p):Pg.atW b w=p:=by
 obtain⟨_,ln,col,h2⟩:=h;unfold Pg.atW;rw[Qaa (o:=1) h2 rfl];simp
def Qkj(Q:Bool→Prop)(w:World)(e:Ending)(w':World):Prop:=(∃b,e=.returned (.bool b)∧Q b)∧w'=w
theorem QjS{w:World}(n:Nat):Below w.heap.size w (w.drewN n):=⟨rfl,rfl,rfl,Xb _,fun _ _=>rfl⟩
theorem QjZ(c:Int)(w:World):Calls prog 83 #[.int .i32 c] w (Qkj (fun k=>k=true↔(c=95∨(97≤c∧c≤122)∨(65≤c∧c≤90))) w):=by
 go_enter func83,ntmps83
 go_wp2_with fail
 all_goals
  go_ret;exact⟨⟨_,rfl,by simp;try omega⟩,rfl⟩
theorem QjT(c:Int)(w:World):Calls prog 84 #[.int .i32 c] w (Qkj (fun k=>k=true↔(48≤c∧c≤57)) w):=by
 go_enter func84,ntmps84
 go_wp2_with fail
 all_goals
  go_ret;exact⟨⟨_,rfl,by simp;try omega⟩,rfl⟩
theorem Qkk(s:ByteArray)(w:World):Calls prog 85 #[.string s] w (Qkj (fun _=>True) w):=by
 go_enter func85,ntmps85
 go_wp2_with fail
 all_goals
  go_ret;exact⟨⟨_,rfl,trivial⟩,rfl⟩
theorem Qj9{w:World}{b p:Nat}{s:ByteArray}(h:Scn w b s p)(x:ByteArray)(hs:s.size≤3000)(hx:x.size≤10) :
  Calls prog 80 #[.pointer (some ⟨b,0,none⟩),.string x] w (Qks (fun k=>k=true→p+x.size≤s.size∧(s.extract p (p+x.size)).toList=x.toList) w):=by
 obtain⟨hp,ln,col,hb⟩:=h;have c0:w.cell? ⟨b,0,none⟩=some (.string s):=Qaa hb rfl;have c1:w.cell? ⟨b,1,none⟩=some (.int .i64 p):=Qaa hb rfl;clear hb;go_enter func80,ntmps80;by_cases hc:x.size≤s.size-p
 ·have h1:¬(s.size:Int)-(p:Int)<(x.size:Int):=by omega
  have h2:(x.size:Int)≤(s.size:Int)-(p:Int):=by omega
  have h3:p+x.size≤s.size:=by omega
  go_wp2_with fail
  go_quiet (fail)
  go_wp2_with fail
  go_ret;exact⟨⟨_,rfl,fun h=>⟨h3,beq_iff_eq.1 h⟩⟩,QjS _⟩
 ·have h1:(s.size:Int)-(p:Int)<(x.size:Int):=by omega
  have h2:¬(x.size:Int)≤(s.size:Int)-(p:Int):=by omega
  have h6:decide ((x.size:Int)≤(s.size:Int)-(p:Int))=false:=decide_eq_false h2;have h4:IntKind.i64.wrap ((s.size:Int)-(p:Int))=(s.size:Int)-(p:Int):=IntWalk.i64_in _ (by omega)
  go_wp2_with fail
  go_quiet (fail)
  go_wp2_with fail
  go_ret;exact⟨⟨_,rfl,fun h=>by cases h⟩,QjS _⟩
def Pr(w:World)(b:Nat)(s:ByteArray)(p q:Nat)(wr:World):Prop:=Scn wr b s q∧p≤q∧Ext (·=b) w wr
theorem Pr.start{w:World}{b p:Nat}{s:ByteArray}(h:Scn w b s p):Pr w b s p p w:=⟨h,Xb _,.refl _ _⟩
theorem Pr.below{w wr w1:World}{b p q:Nat}{s:ByteArray}(h:Pr w b s p q wr)(hB:Below wr.heap.size wr w1):Pr w b s p q w1:=⟨h.1.ext (S:=fun _=>False) (.below hB) (fun h=>h),h.2.1,h.2.2.trans (.below hB)⟩
theorem Pr.drewN{w wr:World}{b p q:Nat}{s:ByteArray}(h:Pr w b s p q wr)(n:Nat):Pr w b s p q (wr.drewN n):=h.below (QjS n)
theorem Pr.step{w wr w1:World}{b p q q':Nat}{s:ByteArray}(h:Pr w b s p q wr)(hE:Ext (·=b) wr w1)(hS:Scn w1 b s q')(hq:q≤q'):Pr w b s p q' w1:=⟨hS,Xe h.2.1 hq,h.2.2.trans hE⟩
theorem remark_c{w:World}{b p:Nat}{s:ByteArray}(h:Scn w b s p)(hT:Lib.Utf8Tabs 1 2 w)(hs:s.size≤3000)(hb:15≤b) :
  Calls prog 81 #[.pointer (some ⟨b,0,none⟩)] w fun e w'=>∃k q,e=.returned (.bool k)∧Pr w b s p q w'∧(k=true→p<s.size→(Lib.decodeGo (s.extract p s.size)).1≠10→p<q):=by
 have HH:=Hi (Pr.start h);clear h;have HT:=Hi (fun(w':World)(he:Ext (·=b) w w')=>Qbg hT he (by omega) (by omega));clear hT;go_enter func81,ntmps81
 go_wp2_with fail
 go_loopw [3,4] (fun _ _ wr=>Hid (∃q,Pr w b s p q wr)) (fun _ _ wr=>s.size-atW b wr)
 case atStart=>exact Hi ⟨p,HH.out⟩
 case round =>
  obtain⟨q,hq⟩:=hrel.out;clear hrel;have hqa:=hq.1.atW;have HQ:=Hi hq;obtain⟨⟨hqs,ln,col,hbk⟩,_⟩:=hq;have c0:wr.cell? ⟨b,0,none⟩=some (.string s):=Qaa hbk rfl;have c1:wr.cell? ⟨b,1,none⟩=some (.int .i64 q):=Qaa hbk rfl;clear hbk;by_cases hlt:q<s.size
  ·have h1:(q:Int)<(s.size:Int):=by omega
   go_wp2_with fail
   go_quiet (fail)
   go_wp2_with fail
   refine(Qj0 (HQ.out.drewN nq).1 (HT.out _ (HQ.out.drewN nq).2.2) hs).mono ?_;rintro e w1⟨⟨c,k,rfl,hc⟩,B1⟩;have HC:=Hi hc;clear hc;have HQ1:=Hi ((HQ.out.drewN nq).below B1);clear B1;cases k with
   | false =>
    go_wp2_with fail
    go_ret;exact⟨_,q,rfl,HQ1.out,fun h=>by cases h⟩
   | true =>
    by_cases h10:c=10
    ·go_wp2_with fail
     go_ret;refine⟨_,q,rfl,HQ1.out,fun _ _ hn=>?_⟩;have:=HQ1.out.2.1;rcases Nat.lt_or_ge p q with h | h
     ·exact h
     ·exfalso
      have hpq:q=p:=by omega
      subst hpq;have:=HC.out;omega
    ·go_wp2_with fail
     refine(Qjo HQ1.out.1 (HT.out _ HQ1.out.2.2) hs).mono ?_;rintro e w2⟨rfl,E2,q',hS2,hq2,hq3⟩;have HQ2:=Hi (HQ1.out.step E2 hS2 hq2);have h9:=hS2.atW;clear E2 hS2
     go_wp2_with fail
     exact⟨Hi ⟨q',HQ2.out⟩,by have:=hq3 hlt;omega⟩
  ·have h1:¬(q:Int)<(s.size:Int):=by omega
   go_wp2_with fail
   go_quiet (fail)
   go_wp2_with fail
   go_ret;exact⟨_,q,rfl,HQ.out.drewN nq,fun _ h _=>by omega⟩
theorem blanks_c{w:World}{b p:Nat}{s:ByteArray}(h:Scn w b s p)(hT:Lib.Utf8Tabs 1 2 w)(hs:s.size≤3000)(hb:15≤b) :
  Calls prog 58 #[.pointer (some ⟨b,0,none⟩)] w fun e w'=>(∃k,e=.returned (.bool k))∧∃q,Pr w b s p q w':=by
 have HH:=Hi (Pr.start h);clear h;have HT:=Hi (fun(w':World)(he:Ext (·=b) w w')=>Qbg hT he (by omega) (by omega));clear hT;go_enter func58,ntmps58
 go_wp2_with fail
 go_loopw [3,4,20,23,40] (fun _ _ _ _ _ wr=>Hid (∃q,Pr w b s p q wr)) (fun _ _ _ _ _ wr=>s.size-atW b wr)
 case atStart=>exact Hi ⟨p,HH.out⟩
 case round =>
  obtain⟨q,hq⟩:=hrel.out;clear hrel;have hqa:=hq.1.atW;have HQ:=Hi hq;obtain⟨⟨hqs,ln,col,hbk⟩,_⟩:=hq;have c0:wr.cell? ⟨b,0,none⟩=some (.string s):=Qaa hbk rfl;have c1:wr.cell? ⟨b,1,none⟩=some (.int .i64 q):=Qaa hbk rfl;clear hbk;by_cases hlt:q<s.size
  ·have h1:(q:Int)<(s.size:Int):=by omega
   go_wp2_with fail
   go_quiet (fail)
   go_wp2_with fail
   refine(Qj0 (HQ.out.drewN nq).1 (HT.out _ (HQ.out.drewN nq).2.2) hs).mono ?_;rintro e w1⟨⟨c,k,rfl,_⟩,B1⟩;have HQ1:=Hi ((HQ.out.drewN nq).below B1);clear B1;cases k with
   | false =>
    go_wp2_with fail
    go_ret;exact⟨⟨_,rfl⟩,q,HQ1.out⟩
   | true =>
    go_wp2_with fail
    all_goals first
     | (refine(Qjo HQ1.out.1 (HT.out _ HQ1.out.2.2) hs).mono ?_;rintro e w2 ⟨rfl,E2,q',hS2,hq2,hq3⟩;have HQ2:=Hi (HQ1.out.step E2 hS2 hq2);have h9:=hS2.atW;clear E2 hS2;go_wp2_with fail;exact⟨Hi ⟨q',HQ2.out⟩,by have:=hq3 hlt;omega⟩)
     | skip
    refine(Qj9 HQ1.out.1 ⟨#[47,47]⟩ hs (by decide)).mono ?_;rintro e w2⟨⟨k2,rfl,hk2⟩,B2⟩;have HQ2:=Hi (HQ1.out.below B2);clear B2;cases k2 with
    | false =>
     go_wp2_with fail
     go_ret;exact⟨⟨_,rfl⟩,q,HQ2.out⟩
    | true =>
     obtain⟨hk3,hk4⟩:=hk2 rfl;have h47:=dgo_at (a:=47) (l:=[47]) hk3 (by rw[←Qiz,hk4,Qiz]) (by decide);clear hk4 hk3 hk2
     go_wp2_with fail
     refine(remark_c HQ2.out.1 (HT.out _ HQ2.out.2.2) hs hb).mono ?_;rintro e w3⟨k3,q',rfl,hP3,hg3⟩;have HQ3:=Hi (HQ2.out.step hP3.2.2 hP3.1 hP3.2.1);have h9:=hP3.1.atW;clear hP3;cases k3 with
     | false =>
      go_wp2_with fail
      go_ret;exact⟨⟨_,rfl⟩,q',HQ3.out⟩
     | true =>
      have hg4:=hg3 rfl h47.1 (by rw[h47.2];decide)
      go_wp2_with fail
      exact⟨Hi ⟨q',HQ3.out⟩,by omega⟩
  ·have h1:¬(q:Int)<(s.size:Int):=by omega
   go_wp2_with fail
   go_quiet (fail)
   go_wp2_with fail
   go_ret;exact⟨⟨_,rfl⟩,q,HQ.out.drewN nq⟩
end Go.Proofs.Pg
