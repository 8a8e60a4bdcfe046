/- FnComma: a last comma changes nothing; for every world. Part 11. -/
import Derived.Test.YtmhjkkkhdlnngaaGreatDoorZ00
import Derived.WalkKit
import Derived.WalkSpells
import Derived.WalkLawsBesides
import Derived.StillTailTactics
import Derived.BigQuiet
import Derived.Outline
import Derived.Lib.Hide
import Derived.Test.YtmhjkkkhdlnngaaGreatDoorProg
import Derived.Shelf.Unicode.DecodeSlow
set_option linter.all false
set_option maxRecDepth 100000
set_option maxHeartbeats 40000000
namespace Go.Proofs.YtmhjkkkhdlnngaaGreatDoor
open Go.ChangeShapes Go.WideShapes Go.ChangeAt Go.RowKit
theorem k_6:((Tryz.prog.stops==[]))=true:=by kernel_rfl
theorem k_18:((OpenSpec.ofChange Rows.fnCommaSpec).bare.vars.all (Tryz.prog.varReadable ·))=true:=by kernel_rfl
theorem k_26:((Rows.fnCommaRow.lifted==Tryz.prog.liftsFinal))=true:=by kernel_rfl
theorem k_7:((Rows.fnCommaRow.knobs==[]))=true:=by kernel_rfl
theorem k_19:(Tryz.f3.resultTypes.all (fun t=>Tryz.prog.readableRec t&&decide (t<Tryz.prog.types.size)))=true:=by kernel_rfl
theorem k_27:((Tryz.prog.make==some Rows.fnCommaRow.make))=true:=by kernel_rfl
theorem k_8:((Tryz.prog.stopKnobs==[]))=true:=by kernel_rfl
theorem k_20:((Rows.fnCommaRow.ifacesOut==Tryz.f3.resultTypes.toList.any (Tryz.prog.ifacesRec ·)))=true:=by kernel_rfl
theorem k_28:((Rows.fnCommaRow.kinds==(if Rows.fnCommaRow.domain.isEmpty then []else Tryz.f3.params.toList.map fun t=>match Tryz.prog.underlying t with | some (.int k)=>some k | _=>none)))=true:=by kernel_rfl
theorem k_13:((Rows.fnCommaRow.maps==(Tryz.f3.params.toList++(OpenSpec.ofChange Rows.fnCommaSpec).bare.plain.varTypes Tryz.prog).any (Tryz.prog.mapsRec ·)))=true:=by kernel_rfl
theorem k_21:((Rows.fnCommaRow.loopsOut==Tryz.f3.resultTypes.toList.any (Tryz.prog.loopsFrom ·)))=true:=by kernel_rfl
theorem k_29:((Rows.fnCommaRow.pinned==Rows.fnCommaRow.pinnedBy))=true:=by kernel_rfl
theorem k_14:((Rows.fnCommaRow.ifaces==(Tryz.f3.params.toList++(OpenSpec.ofChange Rows.fnCommaSpec).bare.plain.varTypes Tryz.prog).any (Tryz.prog.ifacesRec ·)))=true:=by kernel_rfl
theorem k_22:((Rows.fnCommaRow.plainKeys==Tryz.prog.plainKeys))=true:=by kernel_rfl
theorem k_30:((Rows.fnCommaRow.veiled==(Tryz.f3.params.toList++(OpenSpec.ofChange Rows.fnCommaSpec).bare.plain.varTypes Tryz.prog++Tryz.f3.resultTypes.toList).any (Tryz.prog.veiledRec ·)))=true:=by kernel_rfl
end Go.Proofs.YtmhjkkkhdlnngaaGreatDoor
namespace Go.Proofs.Pg
open Go.RowKit
theorem Qab(w:World)(o:Obj):Below w.heap.size w (w.alloc o):=(Below.refl _ w).alloc (Nat.le_refl _) o
theorem QbR{B:Nat}{w w':World}{v:Value}(h:Below B w w'){p:Addr}(hp:p.block<B)(hc:w.cell? p=some v):w'.cell? p=some v:=(h.cell hp).trans hc
theorem Qac{w:World}{b o:Nat}{c:Array Value}{e:TypeId}{f:Nat×Nat}(h:w.heap[b]? =some (.cells c e f))(v:Value):(w.setCell ⟨b,o,none⟩ v).heap[b]? =some (.cells (c.setIfInBounds o v) e f):=by
 simp[World.setCell,Array.getElem?_modify,h]
theorem Qag{w:World}{b d o:Nat}{x:Obj}(h:w.heap[b]? =some x)(hd:b≠d)(v:Value):(w.setCell ⟨d,o,none⟩ v).heap[b]? =some x:=by
 rw[Below.heap_setCell _ _ _ _ (fun e=>hd e)];exact h
theorem Qaf{w:World}{b:Nat}{x:Obj}(h:w.heap[b]? =some x)(o:Obj):(w.alloc o).heap[b]? =some x:=by
 rw[Below.heap_alloc _ _ _ (Array.getElem?_eq_some_iff.1 h).1];exact h
theorem Qad{w:World}{b:Nat}{x:Obj}(h:w.heap[b]? =some x):b<w.heap.size:=(Array.getElem?_eq_some_iff.1 h).1
theorem Qaa{w:World}{b o:Nat}{c:Array Value}{e:TypeId}{f:Nat×Nat}{v:Value}(h:w.heap[b]? =some (.cells c e f))(hv:c[o]? =some v):w.cell? ⟨b,o,none⟩=some v:=by
 simp[World.cell?,h,hv]
theorem Cl2{w:World}{b:Nat}{c:Array Value}{T:TypeId}{f:Nat×Nat}{v0 v1:Value}(h:w.heap[b]? =some (.cells c T f))(h0:c[0]? =some v0)(h1:c[1]? =some v1):w.cell? ⟨b,0,none⟩=some v0∧w.cell? ⟨b,1,none⟩=some v1:=⟨Qaa h h0,Qaa h h1⟩
theorem Cl3{w:World}{b:Nat}{c:Array Value}{T:TypeId}{f:Nat×Nat}{v0 v1 v2:Value}(h:w.heap[b]? =some (.cells c T f))(h0:c[0]? =some v0)(h1:c[1]? =some v1)(h2:c[2]? =some v2):w.cell? ⟨b,0,none⟩=some v0∧w.cell? ⟨b,1,none⟩=some v1∧w.cell? ⟨b,2,none⟩=some v2:=⟨Qaa h h0,Qaa h h1,Qaa h h2⟩
theorem Cl4{w:World}{b:Nat}{c:Array Value}{T:TypeId}{f:Nat×Nat}{v0 v1 v2 v3:Value}(h:w.heap[b]? =some (.cells c T f))(h0:c[0]? =some v0)(h1:c[1]? =some v1)(h2:c[2]? =some v2)(h3:c[3]? =some v3):w.cell? ⟨b,0,none⟩=some v0∧w.cell? ⟨b,1,none⟩=some v1∧w.cell? ⟨b,2,none⟩=some v2∧w.cell? ⟨b,3,none⟩=some v3:=⟨Qaa h h0,Qaa h h1,Qaa h h2,Qaa h h3⟩
theorem Cl5{w:World}{b:Nat}{c:Array Value}{T:TypeId}{f:Nat×Nat}{v0 v1 v2 v3 v4:Value}(h:w.heap[b]? =some (.cells c T f))(h0:c[0]? =some v0)(h1:c[1]? =some v1)(h2:c[2]? =some v2)(h3:c[3]? =some v3)(h4:c[4]? =some v4):w.cell? ⟨b,0,none⟩=some v0∧w.cell? ⟨b,1,none⟩=some v1∧w.cell? ⟨b,2,none⟩=some v2∧w.cell? ⟨b,3,none⟩=some v3∧w.cell? ⟨b,4,none⟩=some v4:=⟨Qaa h h0,Qaa h h1,Qaa h h2,Qaa h h3,Qaa h h4⟩
theorem Cl6{w:World}{b:Nat}{c:Array Value}{T:TypeId}{f:Nat×Nat}{v0 v1 v2 v3 v4 v5:Value}(h:w.heap[b]? =some (.cells c T f))(h0:c[0]? =some v0)(h1:c[1]? =some v1)(h2:c[2]? =some v2)(h3:c[3]? =some v3)(h4:c[4]? =some v4)(h5:c[5]? =some v5):w.cell? ⟨b,0,none⟩=some v0∧w.cell? ⟨b,1,none⟩=some v1∧w.cell? ⟨b,2,none⟩=some v2∧w.cell? ⟨b,3,none⟩=some v3∧w.cell? ⟨b,4,none⟩=some v4∧w.cell? ⟨b,5,none⟩=some v5:=⟨Qaa h h0,Qaa h h1,Qaa h h2,Qaa h h3,Qaa h h4,Qaa h h5⟩
theorem Cl7{w:World}{b:Nat}{c:Array Value}{T:TypeId}{f:Nat×Nat}{v0 v1 v2 v3 v4 v5 v6:Value}(h:w.heap[b]? =some (.cells c T f))(h0:c[0]? =some v0)(h1:c[1]? =some v1)(h2:c[2]? =some v2)(h3:c[3]? =some v3)(h4:c[4]? =some v4)(h5:c[5]? =some v5)(h6:c[6]? =some v6):w.cell? ⟨b,0,none⟩=some v0∧w.cell? ⟨b,1,none⟩=some v1∧w.cell? ⟨b,2,none⟩=some v2∧w.cell? ⟨b,3,none⟩=some v3∧w.cell? ⟨b,4,none⟩=some v4∧w.cell? ⟨b,5,none⟩=some v5∧w.cell? ⟨b,6,none⟩=some v6:=⟨Qaa h h0,Qaa h h1,Qaa h h2,Qaa h h3,Qaa h h4,Qaa h h5,Qaa h h6⟩
theorem Cl8{w:World}{b:Nat}{c:Array Value}{T:TypeId}{f:Nat×Nat}{v0 v1 v2 v3 v4 v5 v6 v7:Value}(h:w.heap[b]? =some (.cells c T f))(h0:c[0]? =some v0)(h1:c[1]? =some v1)(h2:c[2]? =some v2)(h3:c[3]? =some v3)(h4:c[4]? =some v4)(h5:c[5]? =some v5)(h6:c[6]? =some v6)(h7:c[7]? =some v7):w.cell? ⟨b,0,none⟩=some v0∧w.cell? ⟨b,1,none⟩=some v1∧w.cell? ⟨b,2,none⟩=some v2∧w.cell? ⟨b,3,none⟩=some v3∧w.cell? ⟨b,4,none⟩=some v4∧w.cell? ⟨b,5,none⟩=some v5∧w.cell? ⟨b,6,none⟩=some v6∧w.cell? ⟨b,7,none⟩=some v7:=⟨Qaa h h0,Qaa h h1,Qaa h h2,Qaa h h3,Qaa h h4,Qaa h h5,Qaa h h6,Qaa h h7⟩
theorem Cl9{w:World}{b:Nat}{c:Array Value}{T:TypeId}{f:Nat×Nat}{v0 v1 v2 v3 v4 v5 v6 v7 v8:Value}(h:w.heap[b]? =some (.cells c T f))(h0:c[0]? =some v0)(h1:c[1]? =some v1)(h2:c[2]? =some v2)(h3:c[3]? =some v3)(h4:c[4]? =some v4)(h5:c[5]? =some v5)(h6:c[6]? =some v6)(h7:c[7]? =some v7)(h8:c[8]? =some v8):w.cell? ⟨b,0,none⟩=some v0∧w.cell? ⟨b,1,none⟩=some v1∧w.cell? ⟨b,2,none⟩=some v2∧w.cell? ⟨b,3,none⟩=some v3∧w.cell? ⟨b,4,none⟩=some v4∧w.cell? ⟨b,5,none⟩=some v5∧w.cell? ⟨b,6,none⟩=some v6∧w.cell? ⟨b,7,none⟩=some v7∧w.cell? ⟨b,8,none⟩=some v8:=⟨Qaa h h0,Qaa h h1,Qaa h h2,Qaa h h3,Qaa h h4,Qaa h h5,Qaa h h6,Qaa h h7,Qaa h h8⟩
theorem Cl10{w:World}{b:Nat}{c:Array Value}{T:TypeId}{f:Nat×Nat}{v0 v1 v2 v3 v4 v5 v6 v7 v8 v9:Value}(h:w.heap[b]? =some (.cells c T f))(h0:c[0]? =some v0)(h1:c[1]? =some v1)(h2:c[2]? =some v2)(h3:c[3]? =some v3)(h4:c[4]? =some v4)(h5:c[5]? =some v5)(h6:c[6]? =some v6)(h7:c[7]? =some v7)(h8:c[8]? =some v8)(h9:c[9]? =some v9):w.cell? ⟨b,0,none⟩=some v0∧w.cell? ⟨b,1,none⟩=some v1∧w.cell? ⟨b,2,none⟩=some v2∧w.cell? ⟨b,3,none⟩=some v3∧w.cell? ⟨b,4,none⟩=some v4∧w.cell? ⟨b,5,none⟩=some v5∧w.cell? ⟨b,6,none⟩=some v6∧w.cell? ⟨b,7,none⟩=some v7∧w.cell? ⟨b,8,none⟩=some v8∧w.cell? ⟨b,9,none⟩=some v9:=⟨Qaa h h0,Qaa h h1,Qaa h h2,Qaa h h3,Qaa h h4,Qaa h h5,Qaa h h6,Qaa h h7,Qaa h h8,Qaa h h9⟩
theorem Cl11{w:World}{b:Nat}{c:Array Value}{T:TypeId}{f:Nat×Nat}{v0 v1 v2 v3 v4 v5 v6 v7 v8 v9 v10:Value}(h:w.heap[b]? =some (.cells c T f))(h0:c[0]? =some v0)(h1:c[1]? =some v1)(h2:c[2]? =some v2)(h3:c[3]? =some v3)(h4:c[4]? =some v4)(h5:c[5]? =some v5)(h6:c[6]? =some v6)(h7:c[7]? =some v7)(h8:c[8]? =some v8)(h9:c[9]? =some v9)(h10:c[10]? =some v10):w.cell? ⟨b,0,none⟩=some v0∧w.cell? ⟨b,1,none⟩=some v1∧w.cell? ⟨b,2,none⟩=some v2∧w.cell? ⟨b,3,none⟩=some v3∧w.cell? ⟨b,4,none⟩=some v4∧w.cell? ⟨b,5,none⟩=some v5∧w.cell? ⟨b,6,none⟩=some v6∧w.cell? ⟨b,7,none⟩=some v7∧w.cell? ⟨b,8,none⟩=some v8∧w.cell? ⟨b,9,none⟩=some v9∧w.cell? ⟨b,10,none⟩=some v10:=⟨Qaa h h0,Qaa h h1,Qaa h h2,Qaa h h3,Qaa h h4,Qaa h h5,Qaa h h6,Qaa h h7,Qaa h h8,Qaa h h9,Qaa h h10⟩
theorem Hi{p:Prop}(h:p):Hid p:=Lib.hid h
theorem Bk{w w':World}{b:Nat}{o:Obj}(hF:Below w.heap.size w w')(h:w.heap[b]? =some o):w'.heap[b]? =some o:=(hF.block _ (Qad h)).trans h
theorem Qae{w:World}{b:Nat}{c:Array Value}{e:TypeId}(h:w.heap[b]? =some (.cells c e (0,0)))(i:Nat):w.frozen? ⟨b,i,none⟩=false:=by simp[World.frozen?,h]
theorem QcN{w:World}{p:Addr}{v:Value}(hc:w.cell? p=some v):p.block<w.heap.size:=by
 unfold World.cell? at hc;cases hh:w.heap[p.block]? with
 | none=>rw[hh]at hc;cases hc
 | some o=>exact(Array.getElem?_eq_some_iff.1 hh).1
theorem QdX{w w':World}{p:Addr}(h:w'.heap[p.block]? =w.heap[p.block]?):w'.cell? p=w.cell? p:=by unfold World.cell?;rw[h]
structure Ext(S:Nat→Prop)(w w':World):Prop where
 os:w'.os=w.os
 tape:w'.tape=w.tape
 output:w'.output=w.output
 size:w.heap.size≤w'.heap.size
 block:∀b,b<w.heap.size→¬S b→w'.heap[b]? =w.heap[b]?
theorem Ext.refl(S:Nat→Prop)(w:World):Ext S w w:=⟨rfl,rfl,rfl,Nat.le_refl _,fun _ _ _=>rfl⟩
theorem Ext.trans{S:Nat→Prop}{a b c:World}(h:Ext S a b)(k:Ext S b c):Ext S a c :=
 ⟨k.os.trans h.os,k.tape.trans h.tape,k.output.trans h.output,Nat.le_trans h.size k.size,fun d hd hs=>(k.block d (Nat.lt_of_lt_of_le hd h.size) hs).trans (h.block d hd hs)⟩
theorem Ext.mono{S S':Nat→Prop}{a b:World}(h:Ext S a b)(hs:∀d,S d→S' d):Ext S' a b:=⟨h.os,h.tape,h.output,h.size,fun d hd hn=>h.block d hd (fun k=>hn (hs d k))⟩
theorem Ext.trans'{S S':Nat→Prop}{a b c:World}(h:Ext S a b)(k:Ext S' b c)(hs:∀d,S' d→S d∨a.heap.size≤d):Ext S a c :=
 ⟨k.os.trans h.os,k.tape.trans h.tape,k.output.trans h.output,Nat.le_trans h.size k.size,fun d hd hn=>(k.block d (Nat.lt_of_lt_of_le hd h.size) (fun e=>by rcases hs d e with e | e;exact hn e;omega)).trans (h.block d hd hn)⟩
theorem Ext.below{S:Nat→Prop}{a b:World}(h:Below a.heap.size a b):Ext S a b:=⟨h.os,h.tape,h.output,h.size,fun d hd _=>h.block d hd⟩
theorem Ext.toBelow{S:Nat→Prop}{a b:World}{B:Nat}(h:Ext S a b)(hs:∀d,S d→B≤d)(hB:B≤a.heap.size):Below B a b:=⟨h.os,h.tape,h.output,h.size,fun d hd=>h.block d (by omega) (fun k=>by have:=hs d k;omega)⟩
theorem Ext.ofBelow{S:Nat→Prop}{a b:World}{B:Nat}(h:Below B a b)(hs:∀d,B≤d→d<a.heap.size→S d):Ext S a b:=⟨h.os,h.tape,h.output,h.size,fun d hd hn=>h.block d (by rcases Nat.lt_or_ge d B with e | e;exact e;exact absurd (hs d e hd) hn)⟩
theorem Ext.cell{S:Nat→Prop}{a b:World}(h:Ext S a b){p:Addr}{v:Value}(hs:¬S p.block)(hc:a.cell? p=some v):b.cell? p=some v :=
 (QdX (h.block p.block (QcN hc) hs)).trans hc
theorem Ext.heap{S:Nat→Prop}{a b:World}(h:Ext S a b){d:Nat}{x:Obj}(hs:¬S d)(hc:a.heap[d]? =some x):b.heap[d]? =some x:=(h.block d (Qad hc) hs).trans hc
theorem Ext.alloc{S:Nat→Prop}{a b:World}(h:Ext S a b)(o:Obj):Ext S a (b.alloc o):=h.trans (.below (Qab b o))
theorem Ext.drew{S:Nat→Prop}{a b:World}(h:Ext S a b):Ext S a b.drew:=⟨h.os,h.tape,h.output,h.size,h.block⟩
theorem Ext.drewN{S:Nat→Prop}{a b:World}(h:Ext S a b)(n:Nat):Ext S a (b.drewN n):=⟨h.os,h.tape,h.output,h.size,h.block⟩
theorem QfV(w:World)(p:Addr)(v:Value):(w.setCell p v).os=w.os∧(w.setCell p v).tape=w.tape∧(w.setCell p v).output=w.output:=by
 unfold World.setCell;split<;>exact⟨rfl,rfl,rfl⟩
theorem Ext.set{S:Nat→Prop}{a b:World}(h:Ext S a b){p:Addr}(hp:S p.block∨a.heap.size≤p.block)(v:Value):Ext S a (b.setCell p v):=by
 obtain⟨h1,h2,h3⟩:=QfV b p v;refine⟨h1.trans h.os,h2.trans h.tape,h3.trans h.output,by simpa using h.size,fun d hd hs=>?_⟩;rw[Below.heap_setCell _ _ _ _ ?_]
 ·exact h.block d hd hs
 ·rintro rfl
  rcases hp with hp | hp
  ·exact hs hp
  ·omega
theorem QaK{P:Program}{id:Nat}{Q:Exit→Act→World→Prop}{a:Act}{w:World}{l:List Oper}(n:Nat)(hm:P.follows .mixedOrders=true)(hB:Region.lexTailB .any l.toArray n=true)
  (h:wpStill P l.toArray w.drew (fun a'=>wpList P l.toArray Q (l.drop n) a' w.drew) (l.take n) a):(Code.region id l.toArray true).wp P Q a w:=wp_region_still_tail n hm hB h
theorem Qao{P:Program}{fn:Func}{a:Tmp}{t:TypeId}(h:fn.results=#[.cell a t])(tmps:Array Value)(p:Addr)(hp:tmps.getD a undef=.pointer (some p))(w:World)(v:Value)(hv:(loadVar t p).run P w=.ok v w) :
  (results fn tmps).run P w=.ok v w:=by
 have hp':tmps[a]?.getD undef=.pointer (some p):=by simpa using hp
 simp only[results,h];simp[asAddr,hp',hv,Sem.run_bind,Result.andThen_ok,Sem.run_pure]
theorem QaH{P:Program}{fn:Func}{a u:Tmp}{t:TypeId}(h:fn.results=#[.cell a t,.tmp u])(tmps:Array Value)(p:Addr)(hp:tmps.getD a undef=.pointer (some p))(w:World)(v:Value)(hv:(loadVar t p).run P w=.ok v w) :
  (results fn tmps).run P w=.ok (.tuple #[v,tmps.getD u undef]) w:=by
 have hp':tmps[a]?.getD undef=.pointer (some p):=by simpa using hp
 simp only[results,h];simp[asAddr,hp',hv,Sem.run_bind,Result.andThen_ok,Sem.run_pure]
theorem QcO{P:Program}{fn:Func}{a u v:Tmp}{t:TypeId}(h:fn.results=#[.cell a t,.tmp u,.tmp v])(tmps:Array Value)(p:Addr)(hp:tmps.getD a undef=.pointer (some p))(w:World)(x:Value)(hv:(loadVar t p).run P w=.ok x w) :
  (results fn tmps).run P w=.ok (.tuple #[x,tmps.getD u undef,tmps.getD v undef]) w:=by
 have hp':tmps[a]?.getD undef=.pointer (some p):=by simpa using hp
 simp only[results,h];simp[asAddr,hp',hv,Sem.run_bind,Result.andThen_ok,Sem.run_pure]
theorem QfW{P:Program}{t:TypeId}(b o:Nat)(w:World)(v0 v1 v2 v3 v4 v5:Value)(ha:(isAgg t).run P w=.ok true w)(hs:(sizeOf t).run P w=.ok 6 w)(h0:w.cell? ⟨b,o,none⟩=some v0)(h1:w.cell? ⟨b,o+1,none⟩=some v1)
  (h2:w.cell? ⟨b,o+2,none⟩=some v2)(h3:w.cell? ⟨b,o+3,none⟩=some v3)(h4:w.cell? ⟨b,o+4,none⟩=some v4)(h5:w.cell? ⟨b,o+5,none⟩=some v5) :
  (loadVar t ⟨b,o,none⟩).run P w=.ok (.agg #[v0,v1,v2,v3,v4,v5]) w:=by
 simp only[loadVar,Sem.run_bind,ha,hs,Result.andThen_ok,Sem.run_pure,if_true];simp[loadCells,go_sem,h0,h1,h2,h3,h4,h5]
theorem QcP{P:Program}{t:TypeId}(b o:Nat)(w:World)(v0:Value)(ha:(isAgg t).run P w=.ok true w)(hs:(sizeOf t).run P w=.ok 1 w)(h0:w.cell? ⟨b,o,none⟩=some v0) :
  (loadVar t ⟨b,o,none⟩).run P w=.ok (.agg #[v0]) w:=by
 simp only[loadVar,Sem.run_bind,ha,hs,Result.andThen_ok,Sem.run_pure,if_true];simp[loadCells,go_sem,h0]
theorem QeP{P:Program}{t:TypeId}(b o:Nat)(w:World)(v0 v1:Value)(ha:(isAgg t).run P w=.ok true w)(hs:(sizeOf t).run P w=.ok 2 w)(h0:w.cell? ⟨b,o,none⟩=some v0)(h1:w.cell? ⟨b,o+1,none⟩=some v1) :
  (loadVar t ⟨b,o,none⟩).run P w=.ok (.agg #[v0,v1]) w:=by
 simp only[loadVar,Sem.run_bind,ha,hs,Result.andThen_ok,Sem.run_pure,if_true];simp[loadCells,go_sem,h0,h1]
end Go.Proofs.Pg
namespace Go.Proofs.Pg
open Go.RowKit
attribute [local go_sem] Oper.semAt_some
def QaY(w:World)(v:Value)(e:Ending)(w':World):Prop:=e=.returned (.agg #[v])∧Below w.heap.size w w'
theorem Qaq{W:World}{fn:Func}{R:Nat}{v:Value}{Q:Ending→World→Prop}(a:Act)(s:Nat)(hf:fn.results=#[.cell s 299])(ha:a.tmps.getD s undef=.pointer (some ⟨R,0,none⟩))(had:a.defers=[])
  (r:W.heap[R]? =some (.cells #[v] 299 (0,0)))(h:Q (.returned (.agg #[v])) W):bodyPost Tryz.prog fn Q Exit.ret a W:=by
 refine bodyPost_ret (Qao (a:=s) (t:=299) hf _ ⟨R,0,none⟩ ha _ _ (QcP _ _ _ _ (by kernel_rfl) (by kernel_rfl) (Qaa (o:=0) r rfl))) had h
theorem Qah{w:World}{R:Nat}(h:R=w.heap.size)(o:Obj):(w.alloc o).heap[R]? =some o:=by subst h;exact heap_alloc_new _ _
theorem Qan{W w2:World}{R:Nat}(hb:Below W.heap.size W w2)(r:W.heap[R]? =some (.cells #[.nilIface] 299 (0,0))):w2.cell? ⟨R,0,none⟩=some .nilIface∧w2.frozen? ⟨R,0,none⟩=false∧Hid (w2.heap[R]? =some (.cells #[.nilIface] 299 (0,0))):=by
 have:=(hb.block R (Qad r)).trans r;exact⟨Qaa this rfl,Qae this 0,Hi this⟩
theorem Qap{w W w2:World}{R:Nat}{v:Value}(h0:Ext (fun _=>False) w W)(hb:Below W.heap.size W w2)(hR:w.heap.size≤R):Below w.heap.size w (w2.setCell ⟨R,0,none⟩ v) :=
 ((h0.trans (.below hb)).set (.inr hR) _).toBelow (fun _ h=>h.elim) (Nat.le_refl _)
theorem Qar(T:TypeId)(x:Value)(w:World):Calls Tryz.prog 193 #[.iface T x] w (QaY w (.iface T x)):=by
 go_enter Tryz.func193,Tryz.ntmps193;go_wp2;exact Qaq (R:=w.heap.size) _ 2 (by kernel_rfl) rfl rfl (heap_alloc_new w _) ⟨rfl,Qab w _⟩
theorem n195_c(T U:TypeId)(x y:Value)(w:World):Calls Tryz.prog 195 #[.agg #[.iface T x],.agg #[.iface U y]] w (QaY w (.iface 260 (.agg #[.iface T x,.iface U y]))):=by
 go_enter Tryz.func195,Tryz.ntmps195
 go_wp2_with fail
 refine(Qar _ _ _).mono ?_;rintro e w2⟨rfl,hb⟩;obtain⟨z1,z2,z3⟩:=Qan (R:=w.heap.size+1+1) hb (Qah (by simp) _);have hE:=Qap (w:=w) (R:=w.heap.size+1+1) (v:=.iface 260 (.agg #[.iface T x,.iface U y])) ((((Ext.refl _ w).alloc _).alloc _).alloc _) hb (by omega);have HE:=Hi hE;clear hb hE;go_wp2;exact Qaq (R:=w.heap.size+1+1) _ 4 (by kernel_rfl) rfl rfl (Qac (o:=0) z3.out _) ⟨rfl,HE.out⟩
theorem n207_c(T U:TypeId)(x y:Value)(w:World):Calls Tryz.prog 207 #[.agg #[.iface T x],.agg #[.iface U y]] w (QaY w (.iface 262 (.agg #[.iface T x,.iface U y]))):=by
 go_enter Tryz.func207,Tryz.ntmps207
 go_wp2_with fail
 refine(Qar _ _ _).mono ?_;rintro e w2⟨rfl,hb⟩;obtain⟨z1,z2,z3⟩:=Qan (R:=w.heap.size+1+1) hb (Qah (by simp) _);have hE:=Qap (w:=w) (R:=w.heap.size+1+1) (v:=.iface 262 (.agg #[.iface T x,.iface U y])) ((((Ext.refl _ w).alloc _).alloc _).alloc _) hb (by omega);have HE:=Hi hE;clear hb hE;go_wp2;exact Qaq (R:=w.heap.size+1+1) _ 4 (by kernel_rfl) rfl rfl (Qac (o:=0) z3.out _) ⟨rfl,HE.out⟩
theorem n221_c(T U:TypeId)(x y:Value)(w:World):Calls Tryz.prog 221 #[.agg #[.iface T x],.agg #[.iface U y]] w (QaY w (.iface 263 (.agg #[.iface T x,.iface U y]))):=by
 go_enter Tryz.func221,Tryz.ntmps221
 go_wp2_with fail
 refine(Qar _ _ _).mono ?_;rintro e w2⟨rfl,hb⟩;obtain⟨z1,z2,z3⟩:=Qan (R:=w.heap.size+1+1) hb (Qah (by simp) _);have hE:=Qap (w:=w) (R:=w.heap.size+1+1) (v:=.iface 263 (.agg #[.iface T x,.iface U y])) ((((Ext.refl _ w).alloc _).alloc _).alloc _) hb (by omega);have HE:=Hi hE;clear hb hE;go_wp2;exact Qaq (R:=w.heap.size+1+1) _ 4 (by kernel_rfl) rfl rfl (Qac (o:=0) z3.out _) ⟨rfl,HE.out⟩
theorem n222_c(T U:TypeId)(x y:Value)(w:World):Calls Tryz.prog 222 #[.agg #[.iface T x],.agg #[.iface U y]] w (QaY w (.iface 264 (.agg #[.iface T x,.iface U y]))):=by
 go_enter Tryz.func222,Tryz.ntmps222
 go_wp2_with fail
 refine(Qar _ _ _).mono ?_;rintro e w2⟨rfl,hb⟩;obtain⟨z1,z2,z3⟩:=Qan (R:=w.heap.size+1+1) hb (Qah (by simp) _);have hE:=Qap (w:=w) (R:=w.heap.size+1+1) (v:=.iface 264 (.agg #[.iface T x,.iface U y])) ((((Ext.refl _ w).alloc _).alloc _).alloc _) hb (by omega);have HE:=Hi hE;clear hb hE;go_wp2;exact Qaq (R:=w.heap.size+1+1) _ 4 (by kernel_rfl) rfl rfl (Qac (o:=0) z3.out _) ⟨rfl,HE.out⟩
theorem n223_c(T U:TypeId)(x y:Value)(w:World):Calls Tryz.prog 223 #[.agg #[.iface T x],.agg #[.iface U y]] w (QaY w (.iface 265 (.agg #[.iface T x,.iface U y]))):=by
 go_enter Tryz.func223,Tryz.ntmps223
 go_wp2_with fail
 refine(Qar _ _ _).mono ?_;rintro e w2⟨rfl,hb⟩;obtain⟨z1,z2,z3⟩:=Qan (R:=w.heap.size+1+1) hb (Qah (by simp) _);have hE:=Qap (w:=w) (R:=w.heap.size+1+1) (v:=.iface 265 (.agg #[.iface T x,.iface U y])) ((((Ext.refl _ w).alloc _).alloc _).alloc _) hb (by omega);have HE:=Hi hE;clear hb hE;go_wp2;exact Qaq (R:=w.heap.size+1+1) _ 4 (by kernel_rfl) rfl rfl (Qac (o:=0) z3.out _) ⟨rfl,HE.out⟩
theorem n224_c(T U:TypeId)(x y:Value)(w:World):Calls Tryz.prog 224 #[.agg #[.iface T x],.agg #[.iface U y]] w (QaY w (.iface 266 (.agg #[.iface T x,.iface U y]))):=by
 go_enter Tryz.func224,Tryz.ntmps224
 go_wp2_with fail
 refine(Qar _ _ _).mono ?_;rintro e w2⟨rfl,hb⟩;obtain⟨z1,z2,z3⟩:=Qan (R:=w.heap.size+1+1) hb (Qah (by simp) _);have hE:=Qap (w:=w) (R:=w.heap.size+1+1) (v:=.iface 266 (.agg #[.iface T x,.iface U y])) ((((Ext.refl _ w).alloc _).alloc _).alloc _) hb (by omega);have HE:=Hi hE;clear hb hE;go_wp2;exact Qaq (R:=w.heap.size+1+1) _ 4 (by kernel_rfl) rfl rfl (Qac (o:=0) z3.out _) ⟨rfl,HE.out⟩
theorem n225_c(T U:TypeId)(x y:Value)(w:World):Calls Tryz.prog 225 #[.agg #[.iface T x],.agg #[.iface U y]] w (QaY w (.iface 267 (.agg #[.iface T x,.iface U y]))):=by
 go_enter Tryz.func225,Tryz.ntmps225
 go_wp2_with fail
 refine(Qar _ _ _).mono ?_;rintro e w2⟨rfl,hb⟩;obtain⟨z1,z2,z3⟩:=Qan (R:=w.heap.size+1+1) hb (Qah (by simp) _);have hE:=Qap (w:=w) (R:=w.heap.size+1+1) (v:=.iface 267 (.agg #[.iface T x,.iface U y])) ((((Ext.refl _ w).alloc _).alloc _).alloc _) hb (by omega);have HE:=Hi hE;clear hb hE;go_wp2;exact Qaq (R:=w.heap.size+1+1) _ 4 (by kernel_rfl) rfl rfl (Qac (o:=0) z3.out _) ⟨rfl,HE.out⟩
theorem n226_c(T U:TypeId)(x y:Value)(w:World):Calls Tryz.prog 226 #[.agg #[.iface T x],.agg #[.iface U y]] w (QaY w (.iface 268 (.agg #[.iface T x,.iface U y]))):=by
 go_enter Tryz.func226,Tryz.ntmps226
 go_wp2_with fail
 refine(Qar _ _ _).mono ?_;rintro e w2⟨rfl,hb⟩;obtain⟨z1,z2,z3⟩:=Qan (R:=w.heap.size+1+1) hb (Qah (by simp) _);have hE:=Qap (w:=w) (R:=w.heap.size+1+1) (v:=.iface 268 (.agg #[.iface T x,.iface U y])) ((((Ext.refl _ w).alloc _).alloc _).alloc _) hb (by omega);have HE:=Hi hE;clear hb hE;go_wp2;exact Qaq (R:=w.heap.size+1+1) _ 4 (by kernel_rfl) rfl rfl (Qac (o:=0) z3.out _) ⟨rfl,HE.out⟩
theorem n227_c(T U:TypeId)(x y:Value)(w:World):Calls Tryz.prog 227 #[.agg #[.iface T x],.agg #[.iface U y]] w (QaY w (.iface 269 (.agg #[.iface T x,.iface U y]))):=by
 go_enter Tryz.func227,Tryz.ntmps227
 go_wp2_with fail
 refine(Qar _ _ _).mono ?_;rintro e w2⟨rfl,hb⟩;obtain⟨z1,z2,z3⟩:=Qan (R:=w.heap.size+1+1) hb (Qah (by simp) _);have hE:=Qap (w:=w) (R:=w.heap.size+1+1) (v:=.iface 269 (.agg #[.iface T x,.iface U y])) ((((Ext.refl _ w).alloc _).alloc _).alloc _) hb (by omega);have HE:=Hi hE;clear hb hE;go_wp2;exact Qaq (R:=w.heap.size+1+1) _ 4 (by kernel_rfl) rfl rfl (Qac (o:=0) z3.out _) ⟨rfl,HE.out⟩
theorem n231_c(T U:TypeId)(x y:Value)(w:World):Calls Tryz.prog 231 #[.agg #[.iface T x],.agg #[.iface U y]] w (QaY w (.iface 276 (.agg #[.iface T x,.iface U y]))):=by
 go_enter Tryz.func231,Tryz.ntmps231
 go_wp2_with fail
 refine(Qar _ _ _).mono ?_;rintro e w2⟨rfl,hb⟩;obtain⟨z1,z2,z3⟩:=Qan (R:=w.heap.size+1+1) hb (Qah (by simp) _);have hE:=Qap (w:=w) (R:=w.heap.size+1+1) (v:=.iface 276 (.agg #[.iface T x,.iface U y])) ((((Ext.refl _ w).alloc _).alloc _).alloc _) hb (by omega);have HE:=Hi hE;clear hb hE;go_wp2;exact Qaq (R:=w.heap.size+1+1) _ 4 (by kernel_rfl) rfl rfl (Qac (o:=0) z3.out _) ⟨rfl,HE.out⟩
theorem n232_c(T U:TypeId)(x y:Value)(w:World):Calls Tryz.prog 232 #[.agg #[.iface T x],.agg #[.iface U y]] w (QaY w (.iface 275 (.agg #[.iface T x,.iface U y]))):=by
 go_enter Tryz.func232,Tryz.ntmps232
 go_wp2_with fail
 refine(Qar _ _ _).mono ?_;rintro e w2⟨rfl,hb⟩;obtain⟨z1,z2,z3⟩:=Qan (R:=w.heap.size+1+1) hb (Qah (by simp) _);have hE:=Qap (w:=w) (R:=w.heap.size+1+1) (v:=.iface 275 (.agg #[.iface T x,.iface U y])) ((((Ext.refl _ w).alloc _).alloc _).alloc _) hb (by omega);have HE:=Hi hE;clear hb hE;go_wp2;exact Qaq (R:=w.heap.size+1+1) _ 4 (by kernel_rfl) rfl rfl (Qac (o:=0) z3.out _) ⟨rfl,HE.out⟩
theorem n241_c(T U:TypeId)(x y:Value)(w:World):Calls Tryz.prog 241 #[.agg #[.iface T x],.agg #[.iface U y]] w (QaY w (.iface 277 (.agg #[.iface T x,.iface U y]))):=by
 go_enter Tryz.func241,Tryz.ntmps241
 go_wp2_with fail
 refine(Qar _ _ _).mono ?_;rintro e w2⟨rfl,hb⟩;obtain⟨z1,z2,z3⟩:=Qan (R:=w.heap.size+1+1) hb (Qah (by simp) _);have hE:=Qap (w:=w) (R:=w.heap.size+1+1) (v:=.iface 277 (.agg #[.iface T x,.iface U y])) ((((Ext.refl _ w).alloc _).alloc _).alloc _) hb (by omega);have HE:=Hi hE;clear hb hE;go_wp2;exact Qaq (R:=w.heap.size+1+1) _ 4 (by kernel_rfl) rfl rfl (Qac (o:=0) z3.out _) ⟨rfl,HE.out⟩
theorem n282_c(T U:TypeId)(x y:Value)(w:World):Calls Tryz.prog 282 #[.agg #[.iface T x],.agg #[.iface U y]] w (QaY w (.iface 278 (.agg #[.iface T x,.iface U y]))):=by
 go_enter Tryz.func282,Tryz.ntmps282
 go_wp2_with fail
 refine(Qar _ _ _).mono ?_;rintro e w2⟨rfl,hb⟩;obtain⟨z1,z2,z3⟩:=Qan (R:=w.heap.size+1+1) hb (Qah (by simp) _);have hE:=Qap (w:=w) (R:=w.heap.size+1+1) (v:=.iface 278 (.agg #[.iface T x,.iface U y])) ((((Ext.refl _ w).alloc _).alloc _).alloc _) hb (by omega);have HE:=Hi hE;clear hb hE;go_wp2;exact Qaq (R:=w.heap.size+1+1) _ 4 (by kernel_rfl) rfl rfl (Qac (o:=0) z3.out _) ⟨rfl,HE.out⟩
theorem n283_c(T U:TypeId)(x y:Value)(w:World):Calls Tryz.prog 283 #[.agg #[.iface T x],.agg #[.iface U y]] w (QaY w (.iface 279 (.agg #[.iface T x,.iface U y]))):=by
 go_enter Tryz.func283,Tryz.ntmps283
 go_wp2_with fail
 refine(Qar _ _ _).mono ?_;rintro e w2⟨rfl,hb⟩;obtain⟨z1,z2,z3⟩:=Qan (R:=w.heap.size+1+1) hb (Qah (by simp) _);have hE:=Qap (w:=w) (R:=w.heap.size+1+1) (v:=.iface 279 (.agg #[.iface T x,.iface U y])) ((((Ext.refl _ w).alloc _).alloc _).alloc _) hb (by omega);have HE:=Hi hE;clear hb hE;go_wp2;exact Qaq (R:=w.heap.size+1+1) _ 4 (by kernel_rfl) rfl rfl (Qac (o:=0) z3.out _) ⟨rfl,HE.out⟩
theorem n284_c(T U:TypeId)(x y:Value)(w:World):Calls Tryz.prog 284 #[.agg #[.iface T x],.agg #[.iface U y]] w (QaY w (.iface 280 (.agg #[.iface T x,.iface U y]))):=by
 go_enter Tryz.func284,Tryz.ntmps284
 go_wp2_with fail
 refine(Qar _ _ _).mono ?_;rintro e w2⟨rfl,hb⟩;obtain⟨z1,z2,z3⟩:=Qan (R:=w.heap.size+1+1) hb (Qah (by simp) _);have hE:=Qap (w:=w) (R:=w.heap.size+1+1) (v:=.iface 280 (.agg #[.iface T x,.iface U y])) ((((Ext.refl _ w).alloc _).alloc _).alloc _) hb (by omega);have HE:=Hi hE;clear hb hE;go_wp2;exact Qaq (R:=w.heap.size+1+1) _ 4 (by kernel_rfl) rfl rfl (Qac (o:=0) z3.out _) ⟨rfl,HE.out⟩
theorem n285_c(T U:TypeId)(x y:Value)(w:World):Calls Tryz.prog 285 #[.agg #[.iface T x],.agg #[.iface U y]] w (QaY w (.iface 270 (.agg #[.iface T x,.iface U y]))):=by
 go_enter Tryz.func285,Tryz.ntmps285
 go_wp2_with fail
 refine(Qar _ _ _).mono ?_;rintro e w2⟨rfl,hb⟩;obtain⟨z1,z2,z3⟩:=Qan (R:=w.heap.size+1+1) hb (Qah (by simp) _);have hE:=Qap (w:=w) (R:=w.heap.size+1+1) (v:=.iface 270 (.agg #[.iface T x,.iface U y])) ((((Ext.refl _ w).alloc _).alloc _).alloc _) hb (by omega);have HE:=Hi hE;clear hb hE;go_wp2;exact Qaq (R:=w.heap.size+1+1) _ 4 (by kernel_rfl) rfl rfl (Qac (o:=0) z3.out _) ⟨rfl,HE.out⟩
theorem n286_c(T U:TypeId)(x y:Value)(w:World):Calls Tryz.prog 286 #[.agg #[.iface T x],.agg #[.iface U y]] w (QaY w (.iface 271 (.agg #[.iface T x,.iface U y]))):=by
 go_enter Tryz.func286,Tryz.ntmps286
 go_wp2_with fail
 refine(Qar _ _ _).mono ?_;rintro e w2⟨rfl,hb⟩;obtain⟨z1,z2,z3⟩:=Qan (R:=w.heap.size+1+1) hb (Qah (by simp) _);have hE:=Qap (w:=w) (R:=w.heap.size+1+1) (v:=.iface 271 (.agg #[.iface T x,.iface U y])) ((((Ext.refl _ w).alloc _).alloc _).alloc _) hb (by omega);have HE:=Hi hE;clear hb hE;go_wp2;exact Qaq (R:=w.heap.size+1+1) _ 4 (by kernel_rfl) rfl rfl (Qac (o:=0) z3.out _) ⟨rfl,HE.out⟩
theorem Qgw(T:TypeId)(x:Value)(w:World):Calls Tryz.prog 249 #[.agg #[.iface T x]] w (QaY w (.iface 208 (.agg #[.iface T x]))):=by
 go_enter Tryz.func249,Tryz.ntmps249
 go_wp2_with fail
 refine(Qar _ _ _).mono ?_;rintro e w2⟨rfl,hb⟩;obtain⟨z1,z2,z3⟩:=Qan (R:=w.heap.size+1) hb (Qah (by simp) _);have hE:=Qap (w:=w) (R:=w.heap.size+1) (v:=.iface 208 (.agg #[.iface T x])) (((Ext.refl _ w).alloc _).alloc _) hb (by omega);have HE:=Hi hE;clear hb hE;go_wp2;exact Qaq (R:=w.heap.size+1) _ 2 (by kernel_rfl) rfl rfl (Qac (o:=0) z3.out _) ⟨rfl,HE.out⟩
theorem Qgx(T:TypeId)(x:Value)(w:World):Calls Tryz.prog 250 #[.agg #[.iface T x]] w (QaY w (.iface 209 (.agg #[.iface T x]))):=by
 go_enter Tryz.func250,Tryz.ntmps250
 go_wp2_with fail
 refine(Qar _ _ _).mono ?_;rintro e w2⟨rfl,hb⟩;obtain⟨z1,z2,z3⟩:=Qan (R:=w.heap.size+1) hb (Qah (by simp) _);have hE:=Qap (w:=w) (R:=w.heap.size+1) (v:=.iface 209 (.agg #[.iface T x])) (((Ext.refl _ w).alloc _).alloc _) hb (by omega);have HE:=Hi hE;clear hb hE;go_wp2;exact Qaq (R:=w.heap.size+1) _ 2 (by kernel_rfl) rfl rfl (Qac (o:=0) z3.out _) ⟨rfl,HE.out⟩
theorem n288_c(T:TypeId)(x:Value)(w:World):Calls Tryz.prog 288 #[.agg #[.iface T x]] w (QaY w (.iface 210 (.agg #[.iface T x]))):=by
 go_enter Tryz.func288,Tryz.ntmps288
 go_wp2_with fail
 refine(Qar _ _ _).mono ?_;rintro e w2⟨rfl,hb⟩;obtain⟨z1,z2,z3⟩:=Qan (R:=w.heap.size+1) hb (Qah (by simp) _);have hE:=Qap (w:=w) (R:=w.heap.size+1) (v:=.iface 210 (.agg #[.iface T x])) (((Ext.refl _ w).alloc _).alloc _) hb (by omega);have HE:=Hi hE;clear hb hE;go_wp2;exact Qaq (R:=w.heap.size+1) _ 2 (by kernel_rfl) rfl rfl (Qac (o:=0) z3.out _) ⟨rfl,HE.out⟩
theorem Qgy(T:TypeId)(x:Value)(s:ByteArray)(w:World):Calls Tryz.prog 233 #[.agg #[.iface T x],.string s] w (QaY w (.iface 193 (.agg #[.iface T x,.string s]))):=by
 go_enter Tryz.func233,Tryz.ntmps233
 go_wp2_with fail
 refine(Qar _ _ _).mono ?_;rintro e w2⟨rfl,hb⟩;obtain⟨z1,z2,z3⟩:=Qan (R:=w.heap.size+1) hb (Qah (by simp) _);have hE:=Qap (w:=w) (R:=w.heap.size+1) (v:=.iface 193 (.agg #[.iface T x,.string s])) (((Ext.refl _ w).alloc _).alloc _) hb (by omega);have HE:=Hi hE;clear hb hE;go_wp2;exact Qaq (R:=w.heap.size+1) _ 4 (by kernel_rfl) rfl rfl (Qac (o:=0) z3.out _) ⟨rfl,HE.out⟩
theorem Qft(T:TypeId)(x:Value)(s:ByteArray)(w:World):Calls Tryz.prog 234 #[.agg #[.iface T x],.string s] w (QaY w (.iface 194 (.agg #[.iface T x,.string s]))):=by
 go_enter Tryz.func234,Tryz.ntmps234
 go_wp2_with fail
 refine(Qar _ _ _).mono ?_;rintro e w2⟨rfl,hb⟩;obtain⟨z1,z2,z3⟩:=Qan (R:=w.heap.size+1) hb (Qah (by simp) _);have hE:=Qap (w:=w) (R:=w.heap.size+1) (v:=.iface 194 (.agg #[.iface T x,.string s])) (((Ext.refl _ w).alloc _).alloc _) hb (by omega);have HE:=Hi hE;clear hb hE;go_wp2;exact Qaq (R:=w.heap.size+1) _ 4 (by kernel_rfl) rfl rfl (Qac (o:=0) z3.out _) ⟨rfl,HE.out⟩
theorem n238_c(T:TypeId)(x:Value)(s:ByteArray)(w:World):Calls Tryz.prog 238 #[.agg #[.iface T x],.string s] w (QaY w (.iface 202 (.agg #[.iface T x,.string s]))):=by
 go_enter Tryz.func238,Tryz.ntmps238
 go_wp2_with fail
 refine(Qar _ _ _).mono ?_;rintro e w2⟨rfl,hb⟩;obtain⟨z1,z2,z3⟩:=Qan (R:=w.heap.size+1) hb (Qah (by simp) _);have hE:=Qap (w:=w) (R:=w.heap.size+1) (v:=.iface 202 (.agg #[.iface T x,.string s])) (((Ext.refl _ w).alloc _).alloc _) hb (by omega);have HE:=Hi hE;clear hb hE;go_wp2;exact Qaq (R:=w.heap.size+1) _ 4 (by kernel_rfl) rfl rfl (Qac (o:=0) z3.out _) ⟨rfl,HE.out⟩
theorem n236_c(T:TypeId)(x:Value)(p:Option Addr)(n c:Nat)(w:World):Calls Tryz.prog 236 #[.agg #[.iface T x],.agg #[.slice p n c]] w (QaY w (.iface 199 (.agg #[.iface T x,.slice p n c]))):=by
 go_enter Tryz.func236,Tryz.ntmps236
 go_wp2_with fail
 refine(Qar _ _ _).mono ?_;rintro e w2⟨rfl,hb⟩;obtain⟨z1,z2,z3⟩:=Qan (R:=w.heap.size+1+1) hb (Qah (by simp) _);have hE:=Qap (w:=w) (R:=w.heap.size+1+1) (v:=.iface 199 (.agg #[.iface T x,.slice p n c])) ((((Ext.refl _ w).alloc _).alloc _).alloc _) hb (by omega);have HE:=Hi hE;clear hb hE;go_wp2;exact Qaq (R:=w.heap.size+1+1) _ 4 (by kernel_rfl) rfl rfl (Qac (o:=0) z3.out _) ⟨rfl,HE.out⟩
theorem n237_c(T U:TypeId)(x y:Value)(s:ByteArray)(w:World):Calls Tryz.prog 237 #[.agg #[.iface T x],.string s,.agg #[.iface U y]] w (QaY w (.iface 204 (.agg #[.iface T x,.string s,.iface U y]))):=by
 go_enter Tryz.func237,Tryz.ntmps237
 go_wp2_with fail
 refine(Qar _ _ _).mono ?_;rintro e w2⟨rfl,hb⟩;obtain⟨z1,z2,z3⟩:=Qan (R:=w.heap.size+1+1) hb (Qah (by simp) _);have hE:=Qap (w:=w) (R:=w.heap.size+1+1) (v:=.iface 204 (.agg #[.iface T x,.string s,.iface U y])) ((((Ext.refl _ w).alloc _).alloc _).alloc _) hb (by omega);have HE:=Hi hE;clear hb hE;go_wp2;exact Qaq (R:=w.heap.size+1+1) _ 6 (by kernel_rfl) rfl rfl (Qac (o:=0) z3.out _) ⟨rfl,HE.out⟩
theorem n174_c(T U V:TypeId)(x y z:Value)(w:World):Calls Tryz.prog 174 #[.agg #[.iface T x],.agg #[.iface U y],.agg #[.iface V z]] w (QaY w (.iface 188 (.agg #[.iface T x,.iface U y,.iface V z]))):=by
 go_enter Tryz.func174,Tryz.ntmps174
 go_wp2_with fail
 refine(Qar _ _ _).mono ?_;rintro e w2⟨rfl,hb⟩;obtain⟨z1,z2,z3⟩:=Qan (R:=w.heap.size+1+1+1) hb (Qah (by simp) _);have hE:=Qap (w:=w) (R:=w.heap.size+1+1+1) (v:=.iface 188 (.agg #[.iface T x,.iface U y,.iface V z])) (((((Ext.refl _ w).alloc _).alloc _).alloc _).alloc _) hb (by omega);have HE:=Hi hE;clear hb hE;go_wp2;exact Qaq (R:=w.heap.size+1+1+1) _ 6 (by kernel_rfl) rfl rfl (Qac (o:=0) z3.out _) ⟨rfl,HE.out⟩
theorem Qfu(T:TypeId)(x:Value)(w:World):Calls Tryz.prog 256 #[.iface T x] w (QaY w (.iface 182 (.agg #[.iface T x]))):=by
 go_enter Tryz.func256,Tryz.ntmps256
 go_wp2_with fail
 refine(Qar _ _ _).mono ?_;rintro e w2⟨rfl,hb⟩;obtain⟨z1,z2,z3⟩:=Qan (R:=w.heap.size) hb (Qah (by simp) _);have hE:=Qap (w:=w) (R:=w.heap.size) (v:=.iface 182 (.agg #[.iface T x])) ((Ext.refl _ w).alloc _) hb (by omega);have HE:=Hi hE;clear hb hE;go_wp2;exact Qaq (R:=w.heap.size) _ 2 (by kernel_rfl) rfl rfl (Qac (o:=0) z3.out _) ⟨rfl,HE.out⟩
theorem n247_c(n:Int)(w:World):Calls Tryz.prog 247 #[.int .i64 n] w (QaY w (.iface 182 (.agg #[.iface 253 (.int .i64 n)]))):=by
 go_enter Tryz.func247,Tryz.ntmps247
 go_wp2_with fail
 refine(Qfu _ _ _).mono ?_;rintro e w2⟨rfl,hb⟩;obtain⟨z1,z2,z3⟩:=Qan (R:=w.heap.size) hb (Qah (by simp) _);have hE:=Qap (w:=w) (R:=w.heap.size) (v:=.iface 182 (.agg #[.iface 253 (.int .i64 n)])) ((Ext.refl _ w).alloc _) hb (by omega);have HE:=Hi hE;clear hb hE;go_wp2;exact Qaq (R:=w.heap.size) _ 2 (by kernel_rfl) rfl rfl (Qac (o:=0) z3.out _) ⟨rfl,HE.out⟩
theorem n270_c(s:ByteArray)(w:World):Calls Tryz.prog 270 #[.string s] w (QaY w (.iface 182 (.agg #[.iface 131 (.string s)]))):=by
 go_enter Tryz.func270,Tryz.ntmps270
 go_wp2_with fail
 refine(Qfu _ _ _).mono ?_;rintro e w2⟨rfl,hb⟩;obtain⟨z1,z2,z3⟩:=Qan (R:=w.heap.size) hb (Qah (by simp) _);have hE:=Qap (w:=w) (R:=w.heap.size) (v:=.iface 182 (.agg #[.iface 131 (.string s)])) ((Ext.refl _ w).alloc _) hb (by omega);have HE:=Hi hE;clear hb hE;go_wp2;exact Qaq (R:=w.heap.size) _ 2 (by kernel_rfl) rfl rfl (Qac (o:=0) z3.out _) ⟨rfl,HE.out⟩
theorem n297_c(b:Bool)(w:World):Calls Tryz.prog 297 #[.bool b] w (QaY w (.iface 182 (.agg #[.iface 252 (.bool b)]))):=by
 go_enter Tryz.func297,Tryz.ntmps297
 go_wp2_with fail
 refine(Qfu _ _ _).mono ?_;rintro e w2⟨rfl,hb⟩;obtain⟨z1,z2,z3⟩:=Qan (R:=w.heap.size) hb (Qah (by simp) _);have hE:=Qap (w:=w) (R:=w.heap.size) (v:=.iface 182 (.agg #[.iface 252 (.bool b)])) ((Ext.refl _ w).alloc _) hb (by omega);have HE:=Hi hE;clear hb hE;go_wp2;exact Qaq (R:=w.heap.size) _ 2 (by kernel_rfl) rfl rfl (Qac (o:=0) z3.out _) ⟨rfl,HE.out⟩
theorem n271_c(w:World):Calls Tryz.prog 271 #[] w (QaY w (.iface 182 (.agg #[.iface 252 (.bool true)]))):=by
 go_enter Tryz.func271,Tryz.ntmps271
 go_wp2_with fail
 refine(n297_c _ _).mono ?_;rintro e w2⟨rfl,hb⟩;obtain⟨z1,z2,z3⟩:=Qan (R:=w.heap.size) hb (Qah (by simp) _);have hE:=Qap (w:=w) (R:=w.heap.size) (v:=.iface 182 (.agg #[.iface 252 (.bool true)])) ((Ext.refl _ w).alloc _) hb (by omega);have HE:=Hi hE;clear hb hE;go_wp2;exact Qaq (R:=w.heap.size) _ 0 (by kernel_rfl) rfl rfl (Qac (o:=0) z3.out _) ⟨rfl,HE.out⟩
theorem n272_c(w:World):Calls Tryz.prog 272 #[] w (QaY w (.iface 182 (.agg #[.iface 252 (.bool false)]))):=by
 go_enter Tryz.func272,Tryz.ntmps272
 go_wp2_with fail
 refine(n297_c _ _).mono ?_;rintro e w2⟨rfl,hb⟩;obtain⟨z1,z2,z3⟩:=Qan (R:=w.heap.size) hb (Qah (by simp) _);have hE:=Qap (w:=w) (R:=w.heap.size) (v:=.iface 182 (.agg #[.iface 252 (.bool false)])) ((Ext.refl _ w).alloc _) hb (by omega);have HE:=Hi hE;clear hb hE;go_wp2;exact Qaq (R:=w.heap.size) _ 0 (by kernel_rfl) rfl rfl (Qac (o:=0) z3.out _) ⟨rfl,HE.out⟩
theorem n300_c(w:World):Calls Tryz.prog 300 #[] w fun e w'=>e=.returned (.agg #[.string ⟨#[112,114,105,110,99,105,112,97,108]⟩])∧Below w.heap.size w w':=by
 go_enter Tryz.func300,Tryz.ntmps300;go_wp2;exact bodyPost_ret (Qao (a:=0) (t:=186) (by kernel_rfl) _ ⟨w.heap.size,0,none⟩ rfl _ _ (QcP _ _ _ _ (by kernel_rfl) (by kernel_rfl) (Qaa (o:=0) (heap_alloc_new w _) rfl))) rfl ⟨rfl,Qab w _⟩
theorem n274_c(w:World):Calls Tryz.prog 274 #[] w (QaY w (.iface 186 (.agg #[.string ⟨#[112,114,105,110,99,105,112,97,108]⟩]))):=by
 go_enter Tryz.func274,Tryz.ntmps274
 go_wp2_with fail
 refine(n300_c _).mono ?_;rintro e w1⟨rfl,hb1⟩;have hs:=hb1.size;have r1:w1.heap[w.heap.size]? =some (.cells #[.nilIface] 299 (0,0)):=(hb1.block _ (by simp)).trans (heap_alloc_new w _);have hb0:Below w.heap.size w w1:=(Qab w _).trans (hb1.mono (by simp));have R1:=Hi r1;clear r1 hb1
 go_wp2_with fail
 refine(Qar _ _ _).mono ?_;rintro e w2⟨rfl,hb⟩;obtain⟨z1,z2,z3⟩:=Qan hb R1.out;have hE:=Qap (w:=w) (R:=w.heap.size) (v:=.iface 186 (.agg #[.string ⟨#[112,114,105,110,99,105,112,97,108]⟩])) (Ext.below hb0) hb (by omega);have HE:=Hi hE;clear hb hE;go_wp2;exact Qaq (R:=w.heap.size) _ 0 (by kernel_rfl) rfl rfl (Qac (o:=0) z3.out _) ⟨rfl,HE.out⟩
theorem n301_c(w:World):Calls Tryz.prog 301 #[] w fun e w'=>e=.returned (.agg #[.string ⟨#[97,99,116,105,111,110]⟩])∧Below w.heap.size w w':=by
 go_enter Tryz.func301,Tryz.ntmps301;go_wp2;exact bodyPost_ret (Qao (a:=0) (t:=186) (by kernel_rfl) _ ⟨w.heap.size,0,none⟩ rfl _ _ (QcP _ _ _ _ (by kernel_rfl) (by kernel_rfl) (Qaa (o:=0) (heap_alloc_new w _) rfl))) rfl ⟨rfl,Qab w _⟩
theorem n275_c(w:World):Calls Tryz.prog 275 #[] w (QaY w (.iface 186 (.agg #[.string ⟨#[97,99,116,105,111,110]⟩]))):=by
 go_enter Tryz.func275,Tryz.ntmps275
 go_wp2_with fail
 refine(n301_c _).mono ?_;rintro e w1⟨rfl,hb1⟩;have hs:=hb1.size;have r1:w1.heap[w.heap.size]? =some (.cells #[.nilIface] 299 (0,0)):=(hb1.block _ (by simp)).trans (heap_alloc_new w _);have hb0:Below w.heap.size w w1:=(Qab w _).trans (hb1.mono (by simp));have R1:=Hi r1;clear r1 hb1
 go_wp2_with fail
 refine(Qar _ _ _).mono ?_;rintro e w2⟨rfl,hb⟩;obtain⟨z1,z2,z3⟩:=Qan hb R1.out;have hE:=Qap (w:=w) (R:=w.heap.size) (v:=.iface 186 (.agg #[.string ⟨#[97,99,116,105,111,110]⟩])) (Ext.below hb0) hb (by omega);have HE:=Hi hE;clear hb hE;go_wp2;exact Qaq (R:=w.heap.size) _ 0 (by kernel_rfl) rfl rfl (Qac (o:=0) z3.out _) ⟨rfl,HE.out⟩
theorem n302_c(w:World):Calls Tryz.prog 302 #[] w fun e w'=>e=.returned (.agg #[.string ⟨#[114,101,115,111,117,114,99,101]⟩])∧Below w.heap.size w w':=by
 go_enter Tryz.func302,Tryz.ntmps302;go_wp2;exact bodyPost_ret (Qao (a:=0) (t:=186) (by kernel_rfl) _ ⟨w.heap.size,0,none⟩ rfl _ _ (QcP _ _ _ _ (by kernel_rfl) (by kernel_rfl) (Qaa (o:=0) (heap_alloc_new w _) rfl))) rfl ⟨rfl,Qab w _⟩
theorem n276_c(w:World):Calls Tryz.prog 276 #[] w (QaY w (.iface 186 (.agg #[.string ⟨#[114,101,115,111,117,114,99,101]⟩]))):=by
 go_enter Tryz.func276,Tryz.ntmps276
 go_wp2_with fail
 refine(n302_c _).mono ?_;rintro e w1⟨rfl,hb1⟩;have hs:=hb1.size;have r1:w1.heap[w.heap.size]? =some (.cells #[.nilIface] 299 (0,0)):=(hb1.block _ (by simp)).trans (heap_alloc_new w _);have hb0:Below w.heap.size w w1:=(Qab w _).trans (hb1.mono (by simp));have R1:=Hi r1;clear r1 hb1
 go_wp2_with fail
 refine(Qar _ _ _).mono ?_;rintro e w2⟨rfl,hb⟩;obtain⟨z1,z2,z3⟩:=Qan hb R1.out;have hE:=Qap (w:=w) (R:=w.heap.size) (v:=.iface 186 (.agg #[.string ⟨#[114,101,115,111,117,114,99,101]⟩])) (Ext.below hb0) hb (by omega);have HE:=Hi hE;clear hb hE;go_wp2;exact Qaq (R:=w.heap.size) _ 0 (by kernel_rfl) rfl rfl (Qac (o:=0) z3.out _) ⟨rfl,HE.out⟩
theorem n303_c(w:World):Calls Tryz.prog 303 #[] w fun e w'=>e=.returned (.agg #[.string ⟨#[99,111,110,116,101,120,116]⟩])∧Below w.heap.size w w':=by
 go_enter Tryz.func303,Tryz.ntmps303;go_wp2;exact bodyPost_ret (Qao (a:=0) (t:=186) (by kernel_rfl) _ ⟨w.heap.size,0,none⟩ rfl _ _ (QcP _ _ _ _ (by kernel_rfl) (by kernel_rfl) (Qaa (o:=0) (heap_alloc_new w _) rfl))) rfl ⟨rfl,Qab w _⟩
theorem n277_c(w:World):Calls Tryz.prog 277 #[] w (QaY w (.iface 186 (.agg #[.string ⟨#[99,111,110,116,101,120,116]⟩]))):=by
 go_enter Tryz.func277,Tryz.ntmps277
 go_wp2_with fail
 refine(n303_c _).mono ?_;rintro e w1⟨rfl,hb1⟩;have hs:=hb1.size;have r1:w1.heap[w.heap.size]? =some (.cells #[.nilIface] 299 (0,0)):=(hb1.block _ (by simp)).trans (heap_alloc_new w _);have hb0:Below w.heap.size w w1:=(Qab w _).trans (hb1.mono (by simp));have R1:=Hi r1;clear r1 hb1
 go_wp2_with fail
 refine(Qar _ _ _).mono ?_;rintro e w2⟨rfl,hb⟩;obtain⟨z1,z2,z3⟩:=Qan hb R1.out;have hE:=Qap (w:=w) (R:=w.heap.size) (v:=.iface 186 (.agg #[.string ⟨#[99,111,110,116,101,120,116]⟩])) (Ext.below hb0) hb (by omega);have HE:=Hi hE;clear hb hE;go_wp2;exact Qaq (R:=w.heap.size) _ 0 (by kernel_rfl) rfl rfl (Qac (o:=0) z3.out _) ⟨rfl,HE.out⟩
end Go.Proofs.Pg
namespace Go.Proofs.Pg
structure Tok where
 ty:Int
 fn:ByteArray
 off:Int
 ln:Int
 col:Int
 tx:ByteArray
def adv:List Tok→List Tok
 | []=>[]
 | [t]=>[t]
 | _::u::ts=>u::ts
def tx:List Tok→List UInt8
 | []=>[]
 | t::_=>t.tx.toList
inductive Vl where
 | bool (b:Bool)
 | long (n:Int)
 | str (s:ByteArray)
 | uid (t i:ByteArray)
inductive Ex where
 | val (v:Vl)
 | var (s:ByteArray)
 | ite (a b c:Ex)
 | bin (op:Nat)(a b:Ex)
 | una (op:Nat)(a:Ex)
 | sop (op:Nat)(a:Ex)(s:ByteArray)
 | isIn (a:Ex)(s:ByteArray)(b:Ex)
 | like (a:Ex)(p:List (Bool×ByteArray))
 | call (s:ByteArray)(l:List Ex)
 | set (l:List Ex)
 | recd (l:List (ByteArray×Ex))
end Go.Proofs.Pg
namespace Go.Proofs.Pg
open Go.RowKit
attribute [local go_sem] Oper.semAt_some
abbrev Tok.val(t:Tok):Value:=.agg #[.int .i64 t.ty,.string t.fn,.int .i64 t.off,.int .i64 t.ln,.int .i64 t.col,.string t.tx]
attribute [go_sem] Tok.val
@[go_sem] theorem field122_2(a c d e:Int)(b f:ByteArray)(w:World):(Instr.field 122 (.agg #[.int .i64 a,.string b,.int .i64 c,.int .i64 d,.int .i64 e,.string f]) 2).run Tryz.prog w=.ok (.string f) w:=by kernel_rfl
@[go_sem] theorem field122_1(a c d e:Int)(b f:ByteArray)(w:World):(Instr.field 122 (.agg #[.int .i64 a,.string b,.int .i64 c,.int .i64 d,.int .i64 e,.string f]) 1).run Tryz.prog w=.ok (.agg #[.string b,.int .i64 c,.int .i64 d,.int .i64 e]) w:=by kernel_rfl
@[go_sem] theorem field122_0(a c d e:Int)(b f:ByteArray)(w:World):(Instr.field 122 (.agg #[.int .i64 a,.string b,.int .i64 c,.int .i64 d,.int .i64 e,.string f]) 0).run Tryz.prog w=.ok (.int .i64 a) w:=by kernel_rfl
structure TokAt(w:World)(b o:Nat)(t:Tok):Prop where
 c0:w.cell? ⟨b,o,none⟩=some (.int .i64 t.ty)
 c1:w.cell? ⟨b,o+1,none⟩=some (.string t.fn)
 c2:w.cell? ⟨b,o+2,none⟩=some (.int .i64 t.off)
 c3:w.cell? ⟨b,o+3,none⟩=some (.int .i64 t.ln)
 c4:w.cell? ⟨b,o+4,none⟩=some (.int .i64 t.col)
 c5:w.cell? ⟨b,o+5,none⟩=some (.string t.tx)
 sz:t.tx.size≤1000000
theorem TokAt.ext{S:Nat→Prop}{w w':World}{b o:Nat}{t:Tok}(h:TokAt w b o t)(he:Ext S w w')(hs:¬S b):TokAt w' b o t :=
 ⟨he.cell hs h.c0,he.cell hs h.c1,he.cell hs h.c2,he.cell hs h.c3,he.cell hs h.c4,he.cell hs h.c5,h.sz⟩
structure Glob(w:World):Prop where
 tabs:Lib.Utf8Tabs 1 2 w
 eof:∃p,w.cell? ⟨0,0,none⟩=some (.iface 346 p)
 e5:∃T p,w.cell? ⟨5,0,none⟩=some (.iface T p)
 e6:∃T p,w.cell? ⟨6,0,none⟩=some (.iface T p)
theorem Glob.same{w w':World}(h:Glob w)(he:∀b,b<15→w'.heap[b]? =w.heap[b]?):Glob w':=by
 have hc:∀b o,b<15→w'.cell? ⟨b,o,none⟩=w.cell? ⟨b,o,none⟩:=fun b o hb=>QdX (p:=⟨b,o,none⟩) (he b hb)
 refine⟨⟨fun c hc'=>?_,fun i hi=>?_⟩,?_,?_,?_⟩
 ·rw[hc 1 c (by decide)];exact h.tabs.1 c hc'
 ·rw[hc 2 _ (by decide),hc 2 _ (by decide)];exact h.tabs.2 i hi
 ·rw[hc 0 0 (by decide)];exact h.eof
 ·rw[hc 5 0 (by decide)];exact h.e5
 ·rw[hc 6 0 (by decide)];exact h.e6
theorem Glob.ext{S:Nat→Prop}{w w':World}(h:Glob w)(he:Ext S w w')(hs:∀d,S d→15≤d)(hz:15≤w.heap.size):Glob w' :=
 h.same fun b hb=>he.block b (by omega) (fun e=>by have:=hs b e;omega)
structure PS(w:World)(bp base:Nat)(ts:List Tok):Prop where
 ex:∃bt off n cap k,bp≠bt∧w.heap[bp]? =some (.cells #[.slice (some ⟨bt,off,none⟩) n cap,.int .i64 (k:Nat)] 142 (0,0))∧bt<w.heap.size∧k+ts.length=n∧n≤1000000∧ts≠[] ∧
  ∀i t,ts[i]? =some t→TokAt w bt (off+(k+i)*6) t
 lo:∀bt off n cap v,w.heap[bp]? =some (.cells #[.slice (some ⟨bt,off,none⟩) n cap,v] 142 (0,0))→bt<base
 hbp:bp<base
 g:Glob w
 h15:15≤bp
theorem PS.of{w:World}{bp base:Nat}{ts:List Tok}{bt off n cap k:Nat}(a:bp≠bt)(hb:w.heap[bp]? =some (.cells #[.slice (some ⟨bt,off,none⟩) n cap,.int .i64 (k:Nat)] 142 (0,0)))(hlt:bt<w.heap.size)(d:k+ts.length=n)(hn:n≤1000000)(f:ts≠[])
  (g:∀i t,ts[i]? =some t→TokAt w bt (off+(k+i)*6) t)(hlo:bt<base)(hbp:bp<base)(hg:Glob w)(h15:15≤bp):PS w bp base ts :=
 ⟨⟨bt,off,n,cap,k,a,hb,hlt,d,hn,f,g⟩,fun bt' off' n' cap' v' h'=>(by rw[hb]at h';cases h';exact hlo),hbp,hg,h15⟩
theorem PS.lt{w:World}{bp base:Nat}{ts:List Tok}(h:PS w bp base ts):bp<w.heap.size:=by
 obtain⟨bt,off,n,cap,k,_,h,_⟩:=h.ex;exact(Array.getElem?_eq_some_iff.1 h).1
theorem PS.sz{w:World}{bp base:Nat}{t:Tok}{ts:List Tok}(h:PS w bp base (t::ts)):t.tx.size≤1000000:=by
 obtain⟨bt,off,n,cap,k,a,b,c,d,e,f,g⟩:=h.ex;exact(g 0 t rfl).sz
theorem PS.len{w:World}{bp base:Nat}{ts:List Tok}(h:PS w bp base ts):ts.length≤1000000:=by
 obtain⟨bt,off,n,cap,k,a,b,c,d,e,f,g⟩:=h.ex;omega
theorem PS.ext{S:Nat→Prop}{w w':World}{bp base:Nat}{ts:List Tok}(h:PS w bp base ts)(he:Ext S w w')(hs:∀d,S d→base≤d):PS w' bp base ts:=by
 obtain⟨bt,off,n,cap,k,a,b,c,d,e,f,g⟩:=h.ex;have hlo:=h.lo _ _ _ _ _ b;have hbp:=h.hbp;have hbt:¬S bt:=fun e=>by have:=hs _ e;omega
 have hb:w'.heap[bp]? =_:=(he.block bp (Array.getElem?_eq_some_iff.1 b).1 (fun e=>by have:=hs _ e;omega)).trans b;exact⟨⟨bt,off,n,cap,k,a,hb,Nat.lt_of_lt_of_le c he.size,d,e,f,fun i t hi=>(g i t hi).ext he hbt⟩,fun bt' off' n' cap' v' h'=>(by rw[hb]at h';cases h';exact hlo),h.hbp,h.g.ext he (fun d hd=>by have:=hs d hd;have:=h.h15;omega) (by have:=(Array.getElem?_eq_some_iff.1 b).1;have:=h.h15;omega),h.h15⟩
theorem PS.below{w w':World}{bp base:Nat}{ts:List Tok}(h:PS w bp base ts)(he:Below w.heap.size w w'):PS w' bp base ts :=
 h.ext (S:=fun _=>False) (.below he) (fun _ h=>h.elim)
theorem PS.set{w:World}{bp base d o:Nat}{ts:List Tok}(h:PS w bp base ts)(hd:base≤d)(u:Value):PS (w.setCell ⟨d,o,none⟩ u) bp base ts :=
 h.ext (S:=(·=d)) ((Ext.refl (·=d) w).set (p:=⟨d,o,none⟩) (.inl rfl) u) (by rintro e rfl;exact hd)
theorem Qa7{w:World}{bp base:Nat}{t:Tok}{ts:List Tok}(hp:PS w bp base (t::ts)) :
  Calls Tryz.prog 53 #[.pointer (some ⟨bp,0,none⟩)] w fun e w'=>e=.returned t.val∧Below w.heap.size w w':=by
 obtain⟨bt,off,n,cap,k,a,b,hbt,d,hn,f,g⟩:=hp.ex;have hbp:=hp.lt;obtain⟨c0,c1,c2,c3,c4,c5,_⟩:=g 0 t rfl;obtain⟨p0,p1⟩:=Cl2 b rfl rfl;obtain⟨ty,fn,ofs,ln,col,tx⟩:=t;simp only[Nat.add_zero]at c0 c1 c2 c3 c4 c5;have hk:k<n:=by simp at d;omega
 clear a b d g f hp;go_enter Tryz.func53,Tryz.ntmps53
 go_wp2_with fail
 refine QaK 10 (by kernel_rfl) (by kernel_rfl) ?_;simp only[List.take_succ_cons,List.take_zero,List.drop_succ_cons,List.drop_zero]
 repeat still_step
 refine wpStill_nil ?_;go_wp2;refine bodyPost_ret (Qao (a:=2) (t:=122) (by kernel_rfl) _ ⟨w.heap.size,0,none⟩ rfl _ _ (QfW _ _ _ _ _ _ _ _ _ (by kernel_rfl) (by kernel_rfl) ?_ ?_ ?_ ?_ ?_ ?_)) rfl ⟨rfl,?_⟩
 ·simp
 ·simp
 ·simp
 ·simp
 ·simp
 ·simp
 ·exact(Qab w _).drew
def AdvPost(w:World)(bp base:Nat)(t:Tok)(ts:List Tok)(e:Ending)(w':World):Prop:=e=.returned t.val∧PS w' bp base (Pg.adv (t::ts))∧Ext (·=bp) w w'
abbrev Tok.row(t:Tok):Array Value:=#[.int .i64 t.ty,.string t.fn,.int .i64 t.off,.int .i64 t.ln,.int .i64 t.col,.string t.tx]
abbrev tok0:Array Value:=#[.int .i64 0,.string ⟨#[]⟩,.int .i64 0,.int .i64 0,.int .i64 0,.string ⟨#[]⟩]
theorem Qgz{W:World}{fn:Func}{R:Nat}{t:Tok}{Q:Ending→World→Prop}(a:Act)(s:Nat)(hf:fn.results=#[.cell s 122])(ha:a.tmps.getD s undef=.pointer (some ⟨R,0,none⟩))(had:a.defers=[])
  (r:W.heap[R]? =some (.cells t.row 122 (0,0)))(h:Q (.returned t.val) W):bodyPost Tryz.prog fn Q Exit.ret a W:=by
 refine bodyPost_ret (Qao (a:=s) (t:=122) hf _ ⟨R,0,none⟩ ha _ _ (QfW _ _ _ _ _ _ _ _ _ (by kernel_rfl) (by kernel_rfl) (Qaa (o:=0) r rfl) (Qaa (o:=1) r rfl) (Qaa (o:=2) r rfl) (Qaa (o:=3) r rfl) (Qaa (o:=4) r rfl) (Qaa (o:=5) r rfl))) had h
theorem Qg0{w:World}{R:Nat}{u0 u1 u2 u3 u4 u5:Value}{ty:TypeId}(t:Tok)(h:w.heap[R]? =some (.cells #[u0,u1,u2,u3,u4,u5] ty (0,0))) :
  ((((((w.setCell ⟨R,0,none⟩ (.int .i64 t.ty)).setCell ⟨R,1,none⟩ (.string t.fn)).setCell ⟨R,2,none⟩ (.int .i64 t.off)).setCell ⟨R,3,none⟩ (.int .i64 t.ln)).setCell ⟨R,4,none⟩ (.int .i64 t.col)).setCell ⟨R,5,none⟩ (.string t.tx)).heap[R]? =some (.cells t.row ty (0,0)) :=
 Qac (o:=5) (Qac (o:=4) (Qac (o:=3) (Qac (o:=2) (Qac (o:=1) (Qac (o:=0) h _) _) _) _) _) _
theorem Qfv{w:World}{R b:Nat}{x:Obj}(v0 v1 v2 v3 v4 v5:Value)(h:w.heap[b]? =some x)(hn:b≠R) :
  ((((((w.setCell ⟨R,0,none⟩ v0).setCell ⟨R,1,none⟩ v1).setCell ⟨R,2,none⟩ v2).setCell ⟨R,3,none⟩ v3).setCell ⟨R,4,none⟩ v4).setCell ⟨R,5,none⟩ v5).heap[b]? =some x :=
 Qag (Qag (Qag (Qag (Qag (Qag h hn _) hn _) hn _) hn _) hn _) hn _
theorem QeR{S:Nat→Prop}{w w1:World}{R:Nat}(v0 v1 v2 v3 v4 v5:Value)(h:Ext S w w1)(hR:S R∨w.heap.size≤R) :
  Ext S w ((((((w1.setCell ⟨R,0,none⟩ v0).setCell ⟨R,1,none⟩ v1).setCell ⟨R,2,none⟩ v2).setCell ⟨R,3,none⟩ v3).setCell ⟨R,4,none⟩ v4).setCell ⟨R,5,none⟩ v5) :=
 (((((h.set hR _).set hR _).set hR _).set hR _).set hR _).set hR _
theorem Qaz{w:World}{bp base:Nat}{t:Tok}{ts:List Tok}(hp:PS w bp base (t::ts)) :
  Calls Tryz.prog 91 #[.pointer (some ⟨bp,0,none⟩)] w (AdvPost w bp base t ts):=by
 go_enter Tryz.func91,Tryz.ntmps91
 go_wp2_with fail
 refine(Qa7 (hp.below (Qab w _))).mono ?_;rintro e w1⟨rfl,hb1⟩;have hb:Below w.heap.size w w1:=(Qab w _).trans (hb1.mono (by simp));have hE:Ext (·=bp) w w1:=.below hb;have hs1:w.heap.size+1≤w1.heap.size:=by have:=hb1.size;simpa using this
 have r1:w1.heap[w.heap.size]? =some (.cells tok0 122 (0,0)):=(hb1.block _ (by simp)).trans (heap_alloc_new w _);have hlt0:=hp.lt;clear hb1;obtain⟨bt,off,n,cap,k,a,b,hbt,d,hn,f,g⟩:=hp.ex;have hlo:=hp.lo _ _ _ _ _ b;have hpb:=hp.hbp;have hpg:=hp.g;have h15:=hp.h15;have b':w1.heap[bp]? =some (.cells #[.slice (some ⟨bt,off,none⟩) n cap,.int .i64 (k:Nat)] 142 (0,0)):=(hb.block _ hlt0).trans b;have hbp:bp<w1.heap.size:=by omega
 have p0:w1.cell? ⟨bp,0,none⟩=some (.slice (some ⟨bt,off,none⟩) n cap):=Qaa b' rfl;have p1:w1.cell? ⟨bp,1,none⟩=some (.int .i64 (k:Nat)):=Qaa b' rfl;have hf1:∀o,(w1.alloc o).frozen? ⟨bp,1,none⟩=false:=fun o=>Qae (Qaf b' o) 1
 have hf0:∀o i,(w1.alloc o).frozen? ⟨w.heap.size,i,none⟩=false:=fun o i=>Qae (Qaf r1 o) i
 have z0:w1.cell? ⟨w.heap.size,0,none⟩=some (.int .i64 0):=Qaa r1 rfl;have z1:w1.cell? ⟨w.heap.size,1,none⟩=some (.string ⟨#[]⟩):=Qaa r1 rfl;have z2:w1.cell? ⟨w.heap.size,2,none⟩=some (.int .i64 0):=Qaa r1 rfl;have z3:w1.cell? ⟨w.heap.size,3,none⟩=some (.int .i64 0):=Qaa r1 rfl;have z4:w1.cell? ⟨w.heap.size,4,none⟩=some (.int .i64 0):=Qaa r1 rfl;have z5:w1.cell? ⟨w.heap.size,5,none⟩=some (.string ⟨#[]⟩):=Qaa r1 rfl
 have hlt1:w.heap.size<w1.heap.size:=by omega
 have B:=Hi b';clear b b';have R1:=Hi r1;clear r1;cases ts with
 | nil =>
  have hk:¬k<n-1:=by simp at d;omega
  have hn1:1≤n:=by simp at d;omega
  have D:=Hi d;have F:=Hi f;have G:=Hi g;clear d f g hp
  go_wp2_with fail
  go_quiet (fail)
  go_wp2;have hE1:Ext (·=bp) w _:=QeR (.int .i64 t.ty) (.string t.fn) (.int .i64 t.off) (.int .i64 t.ln) (.int .i64 t.col) (.string t.tx) ((hE.alloc (.cells t.row 122)).drewN nq) (R:=w.heap.size) (.inr (Nat.le_refl _));refine Qgz (R:=w.heap.size) (t:=t) _ 2 (by kernel_rfl) rfl rfl (Qg0 t (Qaf R1.out _)) ⟨rfl,PS.of a (Qfv _ _ _ _ _ _ (Qaf B.out _) (by omega)) ?_ D.out hn (by simp[adv]) (fun i u hi=>(G.out i u hi).ext hE1 (fun e=>a e.symm)) hlo hpb (hpg.ext hE1 (fun d hd=>by omega) (by omega)) h15,hE1⟩
  ·exact Nat.lt_of_lt_of_le hbt hE1.size
 | cons u ts =>
  have hk:k<n-1:=by simp at d;omega
  have hn1:1≤n:=by simp at d;omega
  have D:=Hi d;have F:=Hi f;have G:=Hi g;clear d f g hp
  go_wp2_with fail
  go_quiet (fail)
  go_wp2;have hE1:Ext (·=bp) w _:=QeR (.int .i64 t.ty) (.string t.fn) (.int .i64 t.off) (.int .i64 t.ln) (.int .i64 t.col) (.string t.tx) (((hE.alloc (.cells t.row 122)).drewN nq).set (p:=⟨bp,1,none⟩) (.inl rfl) (.int .i64 (k+1))) (R:=w.heap.size) (.inr (Nat.le_refl _));refine Qgz (R:=w.heap.size) (t:=t) _ 2 (by kernel_rfl) rfl rfl (Qg0 t (Qag (Qaf R1.out _) (by omega) _)) ⟨rfl,PS.of a (off:=off) (cap:=cap) (k:=k+1) ?_ ?_ ?_ hn (by simp[adv]) (fun i v hi=>?_) hlo hpb (hpg.ext hE1 (fun d hd=>by omega) (by omega)) h15,hE1⟩
  ·refine Qfv _ _ _ _ _ _ ?_ (by omega)
   exact Qac (o:=1) (Qaf B.out _) _
  ·exact Nat.lt_of_lt_of_le hbt hE1.size
  ·have:=D.out;simp[adv]at this ⊢;omega
  ·have:=(G.out (i+1) v (by simpa [adv]using hi)).ext hE1 (fun e=>a e.symm)
   rw[show k+1+i=k+(i+1)by omega];exact this
end Go.Proofs.Pg
