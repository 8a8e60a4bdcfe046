/- FnPolicyCut, part 0. -/
import Derived.WalkKit
import Derived.WalkSpells
import Derived.WalkLawsBesides
import Derived.StillTailTactics
import Derived.BigQuiet
import Derived.Outline
import Derived.Lib.Hide
set_option linter.all false
set_option maxRecDepth 100000
set_option maxHeartbeats 0
namespace Go.Proofs.Pg
open Go.RowKit
theorem Qab(w:World)(o:Obj):Below w.heap.size w (w.alloc o):=(Below.refl _ w).alloc (Nat.le_refl _) o
theorem QbR{B:Nat}{w w':World}{v:Value}(h:Below B w w'){p:Addr}(hp:p.block<B)(hc:w.cell? p=some v):w'.cell? p=some v:=(h.cell hp).trans hc
theorem Qac{w:World}{b o:Nat}{c:Array Value}{e:TypeId}{f:Nat×Nat}(h:w.heap[b]? =some (.cells c e f))(v:Value):(w.setCell ⟨b,o,none⟩ v).heap[b]? =some (.cells (c.setIfInBounds o v) e f):=by
 simp[World.setCell,Array.getElem?_modify,h]
theorem Qag{w:World}{b d o:Nat}{x:Obj}(h:w.heap[b]? =some x)(hd:b≠d)(v:Value):(w.setCell ⟨d,o,none⟩ v).heap[b]? =some x:=by
 rw[Below.heap_setCell _ _ _ _ (fun e=>hd e)];exact h
theorem Qaf{w:World}{b:Nat}{x:Obj}(h:w.heap[b]? =some x)(o:Obj):(w.alloc o).heap[b]? =some x:=by
 rw[Below.heap_alloc _ _ _ (Array.getElem?_eq_some_iff.1 h).1];exact h
theorem Qad{w:World}{b:Nat}{x:Obj}(h:w.heap[b]? =some x):b<w.heap.size:=(Array.getElem?_eq_some_iff.1 h).1
theorem Qaa{w:World}{b o:Nat}{c:Array Value}{e:TypeId}{f:Nat×Nat}{v:Value}(h:w.heap[b]? =some (.cells c e f))(hv:c[o]? =some v):w.cell? ⟨b,o,none⟩=some v:=by
 simp[World.cell?,h,hv]
theorem Cl2{w:World}{b:Nat}{c:Array Value}{T:TypeId}{f:Nat×Nat}{v0 v1:Value}(h:w.heap[b]? =some (.cells c T f))(h0:c[0]? =some v0)(h1:c[1]? =some v1):w.cell? ⟨b,0,none⟩=some v0∧w.cell? ⟨b,1,none⟩=some v1:=⟨Qaa h h0,Qaa h h1⟩
theorem Cl3{w:World}{b:Nat}{c:Array Value}{T:TypeId}{f:Nat×Nat}{v0 v1 v2:Value}(h:w.heap[b]? =some (.cells c T f))(h0:c[0]? =some v0)(h1:c[1]? =some v1)(h2:c[2]? =some v2):w.cell? ⟨b,0,none⟩=some v0∧w.cell? ⟨b,1,none⟩=some v1∧w.cell? ⟨b,2,none⟩=some v2:=⟨Qaa h h0,Qaa h h1,Qaa h h2⟩
theorem Cl4{w:World}{b:Nat}{c:Array Value}{T:TypeId}{f:Nat×Nat}{v0 v1 v2 v3:Value}(h:w.heap[b]? =some (.cells c T f))(h0:c[0]? =some v0)(h1:c[1]? =some v1)(h2:c[2]? =some v2)(h3:c[3]? =some v3):w.cell? ⟨b,0,none⟩=some v0∧w.cell? ⟨b,1,none⟩=some v1∧w.cell? ⟨b,2,none⟩=some v2∧w.cell? ⟨b,3,none⟩=some v3:=⟨Qaa h h0,Qaa h h1,Qaa h h2,Qaa h h3⟩
theorem Cl5{w:World}{b:Nat}{c:Array Value}{T:TypeId}{f:Nat×Nat}{v0 v1 v2 v3 v4:Value}(h:w.heap[b]? =some (.cells c T f))(h0:c[0]? =some v0)(h1:c[1]? =some v1)(h2:c[2]? =some v2)(h3:c[3]? =some v3)(h4:c[4]? =some v4):w.cell? ⟨b,0,none⟩=some v0∧w.cell? ⟨b,1,none⟩=some v1∧w.cell? ⟨b,2,none⟩=some v2∧w.cell? ⟨b,3,none⟩=some v3∧w.cell? ⟨b,4,none⟩=some v4:=⟨Qaa h h0,Qaa h h1,Qaa h h2,Qaa h h3,Qaa h h4⟩
theorem Cl6{w:World}{b:Nat}{c:Array Value}{T:TypeId}{f:Nat×Nat}{v0 v1 v2 v3 v4 v5:Value}(h:w.heap[b]? =some (.cells c T f))(h0:c[0]? =some v0)(h1:c[1]? =some v1)(h2:c[2]? =some v2)(h3:c[3]? =some v3)(h4:c[4]? =some v4)(h5:c[5]? =some v5):w.cell? ⟨b,0,none⟩=some v0∧w.cell? ⟨b,1,none⟩=some v1∧w.cell? ⟨b,2,none⟩=some v2∧w.cell? ⟨b,3,none⟩=some v3∧w.cell? ⟨b,4,none⟩=some v4∧w.cell? ⟨b,5,none⟩=some v5:=⟨Qaa h h0,Qaa h h1,Qaa h h2,Qaa h h3,Qaa h h4,Qaa h h5⟩
theorem Cl7{w:World}{b:Nat}{c:Array Value}{T:TypeId}{f:Nat×Nat}{v0 v1 v2 v3 v4 v5 v6:Value}(h:w.heap[b]? =some (.cells c T f))(h0:c[0]? =some v0)(h1:c[1]? =some v1)(h2:c[2]? =some v2)(h3:c[3]? =some v3)(h4:c[4]? =some v4)(h5:c[5]? =some v5)(h6:c[6]? =some v6):w.cell? ⟨b,0,none⟩=some v0∧w.cell? ⟨b,1,none⟩=some v1∧w.cell? ⟨b,2,none⟩=some v2∧w.cell? ⟨b,3,none⟩=some v3∧w.cell? ⟨b,4,none⟩=some v4∧w.cell? ⟨b,5,none⟩=some v5∧w.cell? ⟨b,6,none⟩=some v6:=⟨Qaa h h0,Qaa h h1,Qaa h h2,Qaa h h3,Qaa h h4,Qaa h h5,Qaa h h6⟩
theorem Cl8{w:World}{b:Nat}{c:Array Value}{T:TypeId}{f:Nat×Nat}{v0 v1 v2 v3 v4 v5 v6 v7:Value}(h:w.heap[b]? =some (.cells c T f))(h0:c[0]? =some v0)(h1:c[1]? =some v1)(h2:c[2]? =some v2)(h3:c[3]? =some v3)(h4:c[4]? =some v4)(h5:c[5]? =some v5)(h6:c[6]? =some v6)(h7:c[7]? =some v7):w.cell? ⟨b,0,none⟩=some v0∧w.cell? ⟨b,1,none⟩=some v1∧w.cell? ⟨b,2,none⟩=some v2∧w.cell? ⟨b,3,none⟩=some v3∧w.cell? ⟨b,4,none⟩=some v4∧w.cell? ⟨b,5,none⟩=some v5∧w.cell? ⟨b,6,none⟩=some v6∧w.cell? ⟨b,7,none⟩=some v7:=⟨Qaa h h0,Qaa h h1,Qaa h h2,Qaa h h3,Qaa h h4,Qaa h h5,Qaa h h6,Qaa h h7⟩
theorem Cl9{w:World}{b:Nat}{c:Array Value}{T:TypeId}{f:Nat×Nat}{v0 v1 v2 v3 v4 v5 v6 v7 v8:Value}(h:w.heap[b]? =some (.cells c T f))(h0:c[0]? =some v0)(h1:c[1]? =some v1)(h2:c[2]? =some v2)(h3:c[3]? =some v3)(h4:c[4]? =some v4)(h5:c[5]? =some v5)(h6:c[6]? =some v6)(h7:c[7]? =some v7)(h8:c[8]? =some v8):w.cell? ⟨b,0,none⟩=some v0∧w.cell? ⟨b,1,none⟩=some v1∧w.cell? ⟨b,2,none⟩=some v2∧w.cell? ⟨b,3,none⟩=some v3∧w.cell? ⟨b,4,none⟩=some v4∧w.cell? ⟨b,5,none⟩=some v5∧w.cell? ⟨b,6,none⟩=some v6∧w.cell? ⟨b,7,none⟩=some v7∧w.cell? ⟨b,8,none⟩=some v8:=⟨Qaa h h0,Qaa h h1,Qaa h h2,Qaa h h3,Qaa h h4,Qaa h h5,Qaa h h6,Qaa h h7,Qaa h h8⟩
theorem Cl10{w:World}{b:Nat}{c:Array Value}{T:TypeId}{f:Nat×Nat}{v0 v1 v2 v3 v4 v5 v6 v7 v8 v9:Value}(h:w.heap[b]? =some (.cells c T f))(h0:c[0]? =some v0)(h1:c[1]? =some v1)(h2:c[2]? =some v2)(h3:c[3]? =some v3)(h4:c[4]? =some v4)(h5:c[5]? =some v5)(h6:c[6]? =some v6)(h7:c[7]? =some v7)(h8:c[8]? =some v8)(h9:c[9]? =some v9):w.cell? ⟨b,0,none⟩=some v0∧w.cell? ⟨b,1,none⟩=some v1∧w.cell? ⟨b,2,none⟩=some v2∧w.cell? ⟨b,3,none⟩=some v3∧w.cell? ⟨b,4,none⟩=some v4∧w.cell? ⟨b,5,none⟩=some v5∧w.cell? ⟨b,6,none⟩=some v6∧w.cell? ⟨b,7,none⟩=some v7∧w.cell? ⟨b,8,none⟩=some v8∧w.cell? ⟨b,9,none⟩=some v9:=⟨Qaa h h0,Qaa h h1,Qaa h h2,Qaa h h3,Qaa h h4,Qaa h h5,Qaa h h6,Qaa h h7,Qaa h h8,Qaa h h9⟩
theorem Cl11{w:World}{b:Nat}{c:Array Value}{T:TypeId}{f:Nat×Nat}{v0 v1 v2 v3 v4 v5 v6 v7 v8 v9 v10:Value}(h:w.heap[b]? =some (.cells c T f))(h0:c[0]? =some v0)(h1:c[1]? =some v1)(h2:c[2]? =some v2)(h3:c[3]? =some v3)(h4:c[4]? =some v4)(h5:c[5]? =some v5)(h6:c[6]? =some v6)(h7:c[7]? =some v7)(h8:c[8]? =some v8)(h9:c[9]? =some v9)(h10:c[10]? =some v10):w.cell? ⟨b,0,none⟩=some v0∧w.cell? ⟨b,1,none⟩=some v1∧w.cell? ⟨b,2,none⟩=some v2∧w.cell? ⟨b,3,none⟩=some v3∧w.cell? ⟨b,4,none⟩=some v4∧w.cell? ⟨b,5,none⟩=some v5∧w.cell? ⟨b,6,none⟩=some v6∧w.cell? ⟨b,7,none⟩=some v7∧w.cell? ⟨b,8,none⟩=some v8∧w.cell? ⟨b,9,none⟩=some v9∧w.cell? ⟨b,10,none⟩=some v10:=⟨Qaa h h0,Qaa h h1,Qaa h h2,Qaa h h3,Qaa h h4,Qaa h h5,Qaa h h6,Qaa h h7,Qaa h h8,Qaa h h9,Qaa h h10⟩
theorem Xa(w:World)(o:Obj):(w.alloc o).heap[w.heap.size]? =some o:=heap_alloc_new w o
theorem Xb(n:Nat):n≤n:=Nat.le_refl n
theorem Xc{a b:Prop}(x:a)(y:b):a∧b:=⟨x,y⟩
theorem Xd{α:Type _}{a b:α}(h:some a=some b):a=b:=Option.some.inj h
theorem Xe{a b c:Nat}(h:a≤b)(k:b≤c):a≤c:=Nat.le_trans h k
theorem Xf:(false=true)=False:=by simp
theorem Hi{p:Prop}(h:p):Hid p:=Lib.hid h
theorem Bk{w w':World}{b:Nat}{o:Obj}(hF:Below w.heap.size w w')(h:w.heap[b]? =some o):w'.heap[b]? =some o:=(hF.block _ (Qad h)).trans h
theorem Qae{w:World}{b:Nat}{c:Array Value}{e:TypeId}(h:w.heap[b]? =some (.cells c e (0,0)))(i:Nat):w.frozen? ⟨b,i,none⟩=false:=by simp[World.frozen?,h]
theorem QcN{w:World}{p:Addr}{v:Value}(hc:w.cell? p=some v):p.block<w.heap.size:=by
 unfold World.cell? at hc;cases hh:w.heap[p.block]? with
 | none=>rw[hh]at hc;cases hc
 | some o=>exact(Array.getElem?_eq_some_iff.1 hh).1
theorem QdX{w w':World}{p:Addr}(h:w'.heap[p.block]? =w.heap[p.block]?):w'.cell? p=w.cell? p:=by unfold World.cell?;rw[h]
def OkB(w:World)(b:Nat):Prop:=∃v,w.heap[b]? =some (.cells #[v] 348 (0,0))
theorem Qiq{w:World}{b:Nat}{p:Addr}{v:Value}(h:OkB w b):OkB (w.setCell p v) b:=by
 obtain⟨u,hu⟩:=h;obtain⟨d,o,s⟩:=p;by_cases hd:b=d
 ·subst hd
  have hs:(#[u]:Array Value).setIfInBounds o v=#[if o=0 then v else u]:=by cases o<;>simp
  cases s with
  | none=>exact⟨if o=0 then v else u,by simp[World.setCell,Array.getElem?_modify,hu,hs]⟩
  | some s=>exact⟨u,by simp[World.setCell,Array.getElem?_modify,hu]⟩
 ·exact⟨u,by rw[Below.heap_setCell _ _ _ _ (fun e=>hd e)];exact hu⟩
theorem Qip{w:World}{b:Nat}{o:Obj}(h:OkB w b):OkB (w.alloc o) b:=h.imp fun _ hu=>Qaf hu o
theorem Qir{a w:World}(h:Below a.heap.size a w){d:Nat}(hk:OkB a d):OkB w d:=hk.imp fun _ hv=>(h.block d (Qad hv)).trans hv
structure Ext(S:Nat→Prop)(w w':World):Prop where
 os:w'.os=w.os
 tape:w'.tape=w.tape
 output:w'.output=w.output
 size:w.heap.size≤w'.heap.size
 block:∀b,b<w.heap.size→¬S b→w'.heap[b]? =w.heap[b]?
 ok:∀d,OkB w d→OkB w' d
theorem Ext.refl(S:Nat→Prop)(w:World):Ext S w w:=⟨rfl,rfl,rfl,Nat.le_refl _,fun _ _ _=>rfl,fun _ h=>h⟩
theorem Ext.trans{S:Nat→Prop}{a b c:World}(h:Ext S a b)(k:Ext S b c):Ext S a c :=
 ⟨k.os.trans h.os,k.tape.trans h.tape,k.output.trans h.output,Nat.le_trans h.size k.size,fun d hd hs=>(k.block d (Nat.lt_of_lt_of_le hd h.size) hs).trans (h.block d hd hs),fun d hd=>k.ok d (h.ok d hd)⟩
theorem Ext.mono{S S':Nat→Prop}{a b:World}(h:Ext S a b)(hs:∀d,S d→S' d):Ext S' a b:=⟨h.os,h.tape,h.output,h.size,fun d hd hn=>h.block d hd (fun k=>hn (hs d k)),h.ok⟩
theorem Ext.trans'{S S':Nat→Prop}{a b c:World}(h:Ext S a b)(k:Ext S' b c)(hs:∀d,S' d→S d∨a.heap.size≤d):Ext S a c :=
 ⟨k.os.trans h.os,k.tape.trans h.tape,k.output.trans h.output,Nat.le_trans h.size k.size,fun d hd hn=>(k.block d (Nat.lt_of_lt_of_le hd h.size) (fun e=>by rcases hs d e with e | e;exact hn e;omega)).trans (h.block d hd hn),fun d hd=>k.ok d (h.ok d hd)⟩
theorem Ext.below{S:Nat→Prop}{a b:World}(h:Below a.heap.size a b):Ext S a b:=⟨h.os,h.tape,h.output,h.size,fun d hd _=>h.block d hd,fun _ hk=>Qir h hk⟩
theorem Ext.toBelow{S:Nat→Prop}{a b:World}{B:Nat}(h:Ext S a b)(hs:∀d,S d→B≤d)(hB:B≤a.heap.size):Below B a b:=⟨h.os,h.tape,h.output,h.size,fun d hd=>h.block d (by omega) (fun k=>by have:=hs d k;omega)⟩
theorem Ext.ofBelow{S:Nat→Prop}{a b:World}{B:Nat}(h:Below B a b)(hs:∀d,B≤d→d<a.heap.size→S d)(ho:∀d,OkB a d→OkB b d):Ext S a b:=⟨h.os,h.tape,h.output,h.size,fun d hd hn=>h.block d (by rcases Nat.lt_or_ge d B with e | e;exact e;exact absurd (hs d e hd) hn),ho⟩
theorem Ext.cell{S:Nat→Prop}{a b:World}(h:Ext S a b){p:Addr}{v:Value}(hs:¬S p.block)(hc:a.cell? p=some v):b.cell? p=some v :=
 (QdX (h.block p.block (QcN hc) hs)).trans hc
theorem Ext.heap{S:Nat→Prop}{a b:World}(h:Ext S a b){d:Nat}{x:Obj}(hs:¬S d)(hc:a.heap[d]? =some x):b.heap[d]? =some x:=(h.block d (Qad hc) hs).trans hc
theorem Ext.alloc{S:Nat→Prop}{a b:World}(h:Ext S a b)(o:Obj):Ext S a (b.alloc o):=h.trans (.below (Qab b o))
theorem Ext.drew{S:Nat→Prop}{a b:World}(h:Ext S a b):Ext S a b.drew:=⟨h.os,h.tape,h.output,h.size,h.block,h.ok⟩
theorem Ext.drewN{S:Nat→Prop}{a b:World}(h:Ext S a b)(n:Nat):Ext S a (b.drewN n):=⟨h.os,h.tape,h.output,h.size,h.block,h.ok⟩
theorem QfV(w:World)(p:Addr)(v:Value):(w.setCell p v).os=w.os∧(w.setCell p v).tape=w.tape∧(w.setCell p v).output=w.output:=by
 unfold World.setCell;split<;>exact⟨rfl,rfl,rfl⟩
theorem Ext.set{S:Nat→Prop}{a b:World}(h:Ext S a b){p:Addr}(hp:S p.block∨a.heap.size≤p.block)(v:Value):Ext S a (b.setCell p v):=by
 obtain⟨h1,h2,h3⟩:=QfV b p v;refine⟨h1.trans h.os,h2.trans h.tape,h3.trans h.output,by simpa using h.size,fun d hd hs=>?_,fun d hd=>Qiq (h.ok d hd)⟩;rw[Below.heap_setCell _ _ _ _ ?_]
 ·exact h.block d hd hs
 ·rintro rfl
  rcases hp with hp | hp
  ·exact hs hp
  ·omega
theorem QaK{P:Program}{id:Nat}{Q:Exit→Act→World→Prop}{a:Act}{w:World}{l:List Oper}(n:Nat)(hm:P.follows .mixedOrders=true)(hB:Region.lexTailB .any l.toArray n=true)
  (h:wpStill P l.toArray w.drew (fun a'=>wpList P l.toArray Q (l.drop n) a' w.drew) (l.take n) a):(Code.region id l.toArray true).wp P Q a w:=wp_region_still_tail n hm hB h
theorem Qao{P:Program}{fn:Func}{a:Tmp}{t:TypeId}(h:fn.results=#[.cell a t])(tmps:Array Value)(p:Addr)(hp:tmps.getD a undef=.pointer (some p))(w:World)(v:Value)(hv:(loadVar t p).run P w=.ok v w) :
  (results fn tmps).run P w=.ok v w:=by
 have hp':tmps[a]?.getD undef=.pointer (some p):=by simpa using hp
 simp only[results,h];simp[asAddr,hp',hv,Sem.run_bind,Result.andThen_ok,Sem.run_pure]
theorem QaH{P:Program}{fn:Func}{a u:Tmp}{t:TypeId}(h:fn.results=#[.cell a t,.tmp u])(tmps:Array Value)(p:Addr)(hp:tmps.getD a undef=.pointer (some p))(w:World)(v:Value)(hv:(loadVar t p).run P w=.ok v w) :
  (results fn tmps).run P w=.ok (.tuple #[v,tmps.getD u undef]) w:=by
 have hp':tmps[a]?.getD undef=.pointer (some p):=by simpa using hp
 simp only[results,h];simp[asAddr,hp',hv,Sem.run_bind,Result.andThen_ok,Sem.run_pure]
theorem QcO{P:Program}{fn:Func}{a u v:Tmp}{t:TypeId}(h:fn.results=#[.cell a t,.tmp u,.tmp v])(tmps:Array Value)(p:Addr)(hp:tmps.getD a undef=.pointer (some p))(w:World)(x:Value)(hv:(loadVar t p).run P w=.ok x w) :
  (results fn tmps).run P w=.ok (.tuple #[x,tmps.getD u undef,tmps.getD v undef]) w:=by
 have hp':tmps[a]?.getD undef=.pointer (some p):=by simpa using hp
 simp only[results,h];simp[asAddr,hp',hv,Sem.run_bind,Result.andThen_ok,Sem.run_pure]
theorem QfW{P:Program}{t:TypeId}(b o:Nat)(w:World)(v0 v1 v2 v3 v4 v5:Value)(ha:(isAgg t).run P w=.ok true w)(hs:(sizeOf t).run P w=.ok 6 w)(h0:w.cell? ⟨b,o,none⟩=some v0)(h1:w.cell? ⟨b,o+1,none⟩=some v1)
  (h2:w.cell? ⟨b,o+2,none⟩=some v2)(h3:w.cell? ⟨b,o+3,none⟩=some v3)(h4:w.cell? ⟨b,o+4,none⟩=some v4)(h5:w.cell? ⟨b,o+5,none⟩=some v5) :
  (loadVar t ⟨b,o,none⟩).run P w=.ok (.agg #[v0,v1,v2,v3,v4,v5]) w:=by
 simp only[loadVar,Sem.run_bind,ha,hs,Result.andThen_ok,Sem.run_pure,if_true];simp[loadCells,go_sem,h0,h1,h2,h3,h4,h5]
theorem QcP{P:Program}{t:TypeId}(b o:Nat)(w:World)(v0:Value)(ha:(isAgg t).run P w=.ok true w)(hs:(sizeOf t).run P w=.ok 1 w)(h0:w.cell? ⟨b,o,none⟩=some v0) :
  (loadVar t ⟨b,o,none⟩).run P w=.ok (.agg #[v0]) w:=by
 simp only[loadVar,Sem.run_bind,ha,hs,Result.andThen_ok,Sem.run_pure,if_true];simp[loadCells,go_sem,h0]
theorem QeP{P:Program}{t:TypeId}(b o:Nat)(w:World)(v0 v1:Value)(ha:(isAgg t).run P w=.ok true w)(hs:(sizeOf t).run P w=.ok 2 w)(h0:w.cell? ⟨b,o,none⟩=some v0)(h1:w.cell? ⟨b,o+1,none⟩=some v1) :
  (loadVar t ⟨b,o,none⟩).run P w=.ok (.agg #[v0,v1]) w:=by
 simp only[loadVar,Sem.run_bind,ha,hs,Result.andThen_ok,Sem.run_pure,if_true];simp[loadCells,go_sem,h0,h1]
end Go.Proofs.Pg
