/- FnDecodeAll, part 15. -/
import Derived.Test.YtmhjkkkhdlnngaaGreatDoorZ14
set_option linter.all false
set_option maxRecDepth 100000
set_option maxHeartbeats 0
namespace Go.Proofs.Pg
open Go.RowKit Go.Proofs.Tryz
attribute [local go_sem] Oper.semAt_some
def isWs(c:Int):Bool:=c==9||c==10||c==13||c==32
def Qe1(c:Int):Bool:=(decide (65≤c)&&decide (c≤90))||(decide (97≤c)&&decide (c≤122))
def QaZ(c:Int):Bool:=decide (48≤c)&&decide (c≤57)
def isId(c:Int)(first:Bool):Bool:=c==95||Qe1 c||(QaZ c&&!first)
theorem ws_c(c:Int)(w:World):Calls prog 122 #[.int .i32 c] w fun e w'=>e=.returned (.bool (isWs c))∧w'=w:=by
 have HI:=Hi (show isWs c=(c==9||c==10||c==13||c==32)from rfl);generalize isWs c=B at *;go_enter func122,ntmps122;go_wp2
 all_goals(go_ret;exact⟨by rw[HI.out];simp_all,rfl⟩)
theorem num_c(c:Int)(w:World):Calls prog 163 #[.int .i32 c] w fun e w'=>e=.returned (.bool (QaZ c))∧w'=w:=by
 have HI:=Hi (show QaZ c=(decide (48≤c)&&decide (c≤57))from rfl);generalize QaZ c=B at *;by_cases h1:48≤c
 all_goals by_cases h2:c≤57
 all_goals
  go_enter func163,ntmps163;go_wp2
  all_goals(go_ret;exact⟨by rw[HI.out];simp_all,rfl⟩)
theorem Qhj(c:Int)(w:World):Calls prog 126 #[.int .i32 c] w fun e w'=>e=.returned (.bool (QaZ c))∧w'=w:=by
 have HI:=Hi (show QaZ c=(decide (48≤c)&&decide (c≤57))from rfl);generalize QaZ c=B at *;by_cases h1:48≤c
 all_goals by_cases h2:c≤57
 all_goals
  go_enter func126,ntmps126;go_wp2
  all_goals(go_ret;exact⟨by rw[HI.out];simp_all,rfl⟩)
theorem let_c(c:Int)(w:World):Calls prog 162 #[.int .i32 c] w fun e w'=>e=.returned (.bool (Qe1 c))∧w'=w:=by
 have HI:=Hi (show Qe1 c=((decide (65≤c)&&decide (c≤90))||(decide (97≤c)&&decide (c≤122)))from rfl);generalize Qe1 c=B at *;by_cases h1:65≤c
 all_goals by_cases h2:c≤90
 all_goals by_cases h3:97≤c
 all_goals by_cases h4:c≤122
 all_goals
  go_enter func162,ntmps162;go_wp2
  all_goals(go_ret;exact⟨by rw[HI.out];simp_all,rfl⟩)
theorem id_c(c:Int)(f:Bool)(w:World):Calls prog 124 #[.int .i32 c,.bool f] w fun e w'=>e=.returned (.bool (isId c f))∧w'=w:=by
 have HI:=Hi (show isId c f=(c==95||Qe1 c||(QaZ c&&!f))from rfl);have HL:Hid (∀w,Calls prog 162 #[.int .i32 c] w fun e w'=>e=.returned (.bool (Qe1 c))∧w'=w):=Hi (let_c c);have HN:Hid (∀w,Calls prog 163 #[.int .i32 c] w fun e w'=>e=.returned (.bool (QaZ c))∧w'=w):=Hi (num_c c);generalize isId c f=B at *;generalize Qe1 c=L at *;generalize QaZ c=N at *;cases h0:(c==95)
 all_goals cases L
 all_goals cases N
 all_goals cases f
 all_goals
  go_enter func124,ntmps124
  go_wp2_with(first | (go_at_call 162;refine(HL.out _).mono ?_;rintro e w' ⟨rfl,rfl⟩) | (go_at_call 163;refine(HN.out _).mono ?_;rintro e w' ⟨rfl,rfl⟩))
  go_ret;exact⟨by rw[HI.out];simp_all,rfl⟩
end Go.Proofs.Pg
namespace Go.Proofs.Pg
open Go.RowKit
attribute [local go_sem] Oper.semAt_some
section
variable (t:List UInt8)
abbrev Cs:=Int×Sc
def rem(σ:Sc):Nat:=t.length-σ.p
def mu(s:Cs):Nat:=if s.1=-1 then 0 else rem t s.2+1
def idL:Nat→Cs→Cs
 | 0,s=>s
 | f+1,s=>if isId s.1 false=true then idL f (nxt t s.2)else s
def Qc3(σ:Sc):Cs:=idL t (t.length+2) (nxt t σ)
def numL:Nat→Cs→Cs
 | 0,s=>s
 | f+1,s=>if QaZ s.1=true then numL f (nxt t s.2)else s
def QbN(s:Cs):Cs:=numL t (t.length+2) s
def Qc9(c:Int):Int:=bits .or .i32 32 c
def Qc1(c:Int):Bool:=QaZ c||(decide (97≤Qc9 c)&&decide (Qc9 c≤102))
def err(s:Cs):Cs:=(s.1,{s.2 with er:=true})
def hexL:Nat→Nat→Cs→Nat×Cs
 | 0,n,s=>(n,s)
 | f+1,n,s=>if Qc1 s.1=true then hexL f (n+1) (nxt t s.2)else(n,s)
def Qbj(mn mx:Nat)(s:Cs):Cs:=let p:=hexL t mx 0 s;if p.1<mn then err p.2 else p.2
def QbB(c:Int):Bool:=c==110||c==114||c==116||c==92||c==48||c==39||c==34||c==42
def Qbn(σ:Sc):Cs :=
 let s:=nxt t σ
 if QbB s.1=true then nxt t s.2
 else if s.1=120 then Qbj t 2 2 (nxt t s.2)
 else if s.1=117 then(let u:=nxt t s.2;if u.1=123 then(let v:=Qbj t 1 6 (nxt t u.2);if v.1=125 then nxt t v.2 else err v)else err u)
 else err s
def strL:Nat→Cs→Sc
 | 0,s=>s.2
 | f+1,s=>if s.1=34 then s.2 else if s.1=10∨s.1<0 then(err s).2 else if s.1=92 then strL f (Qbn t s.2)else strL f (nxt t s.2)
def QbC(σ:Sc):Sc:=strL t (t.length+2) (nxt t σ)
def lineL:Nat→Cs→Cs
 | 0,s=>s
 | f+1,s=>if s.1≠10∧0≤s.1 then lineL f (nxt t s.2)else s
def comL:Nat→Cs→Cs
 | 0,s=>s
 | f+1,s=>if s.1<0 then err s else let u:=nxt t s.2;if s.1=42∧u.1=47 then nxt t u.2 else comL f u
def QaT(s:Cs):Cs:=if s.1=47 then lineL t (t.length+2) (nxt t s.2)else comL t (t.length+2) (nxt t s.2)
def Qee(c:Int):Bool:=c==64||c==46||c==44||c==59||c==40||c==41||c==123||c==125||c==91||c==93||c==43||c==45||c==42
def Qbo(c0:Int)(s:Cs):Int×Cs :=
 if Qee c0=true then(5,s)
 else if c0=58 then(5,if s.1=58 then nxt t s.2 else s)
 else if c0=33∨c0=60∨c0=62 then(5,if s.1=61 then nxt t s.2 else s)
 else if c0=61∨c0=124∨c0=38 then(if s.1=c0 then(5,nxt t s.2)else(6,s))
 else(6,s)
def wsL:Nat→Cs→Cs
 | 0,s=>s
 | f+1,s=>if isWs s.1=true then wsL f (nxt t s.2)else s
def QaA(s:Cs):Cs:=wsL t (t.length+2) s
end
theorem nxt_p{t:List UInt8}{σ:Sc}(h:σ.p<t.length):σ.p<(nxt t σ).2.p∧(nxt t σ).2.p≤t.length:=by
 have hne:t.drop σ.p≠[]:=by intro e;have:=congrArg List.length e;rw[List.length_drop]at this;simp at this;omega
 have hw:=Qco hne;rw[List.length_drop]at hw;unfold nxt;rw[if_neg (by omega)]
 repeat' split
 all_goals(simp only;omega)
theorem Qhk{t:List UInt8}{σ:Sc}(h:t.length≤σ.p):(nxt t σ).1=-1∧(nxt t σ).2.p=σ.p:=by
 unfold nxt;rw[if_pos h];exact⟨rfl,rfl⟩
theorem Qbk(t:List UInt8)(σ:Sc):mu t (nxt t σ)≤rem t σ:=by
 unfold mu rem;by_cases h:σ.p<t.length
 ·have:=nxt_p h
  split<;>omega
 ·rw[if_pos (Qhk (by omega)).1];omega
theorem Qbc{t:List UInt8}{c:Int}{σ:Sc}(h:c≠-1):mu t (c,σ)=rem t σ+1:=by unfold mu;rw[if_neg h]
end Go.Proofs.Pg
