/- FnPolicyCut, part 30. -/
import Derived.Test.YtmhjkkkhdlnngaaGreatDoorP29
set_option linter.all false
set_option maxRecDepth 100000
set_option maxHeartbeats 0
namespace Go.Proofs.Pg
open Go.RowKit
attribute [local go_sem] Oper.semAt_some
theorem QhZ(s:ByteArray)(cap:Nat):((bytesRow s cap).toList.drop 0).take s.data.toList.length=Lib.byteCells s.data.toList:=by
 rw[List.drop_zero,bytesRow];simp[Lib.byteCells]
abbrev pZl:List Value:=[.bool false,.slice none 0 0,.int .i64 0,.string ⟨#[]⟩,.string ⟨#[]⟩,.slice none 0 0,.string ⟨#[]⟩,.int .i64 0,.string ⟨#[]⟩,.string ⟨#[]⟩,.slice none 0 0,.string ⟨#[]⟩,.int .i64 0,.string ⟨#[]⟩,.string ⟨#[]⟩,.slice none 0 0,.string ⟨#[]⟩,.slice none 0 0]
theorem ScsIs.extT{w w':World}{U S:Nat→Prop}{cs:List Value}{x:PSc}(h:ScsIs w U cs x)(he:Ext S w w')(hs:∀d c fr,w.heap[d]? =some (.cells c 56 fr)→¬S d):ScsIs w' U cs x:=by
 obtain⟨p,c,h1,h2⟩:=h;exact⟨p,c,h1,h2.extT he hs⟩
theorem PpIs.extT{w w':World}{U S:Nat→Prop}{cs:List Value}{P:PPol}(h:PpIs w U cs P)(he:Ext S w w')(hs:∀d c T fr,w.heap[d]? =some (.cells c T fr)→T≠62→¬S d):PpIs w' U cs P:=by
 obtain⟨pn,cn,c1,c2,c3,pc,cc,cells,h1,h2,h3,h4,h5,h6,h7⟩:=h;exact⟨pn,cn,c1,c2,c3,pc,cc,cells,h1,h2.extT he (fun d c fr q=>hs d c _ fr q (by decide)),h3.extT he (fun d c fr q=>hs d c _ fr q (by decide)),h4.extT he (fun d c fr q=>hs d c _ fr q (by decide)),h5.extT he (fun d c fr q=>hs d c _ fr q (by decide)),h6.extT he (fun d c fr q=>hs d c _ fr q (by decide)),h7.extT he (fun d c fr q=>hs d c _ fr q (by decide)) (fun d c fr q=>hs d c _ fr q (by decide))⟩
theorem ScsIs.mono{w:World}{U U':Nat→Prop}{cs:List Value}{x:PSc}(h:ScsIs w U cs x)(hu:∀d,U d→U' d):ScsIs w U' cs x:=by
 obtain⟨p,c,h1,h2⟩:=h;exact⟨p,c,h1,h2.mono hu⟩
theorem CnIs.mono{w:World}{U U':Nat→Prop}{cs:List Value}{l:List (Bool×PEx)}(h:CnIs w U cs l)(hu:∀d,U d→U' d):CnIs w U' cs l:=⟨h.1,fun i a hi=>⟨(h.2 i a hi).1,(h.2 i a hi).2.mono hu⟩⟩
theorem PpIs.mono{w:World}{U U':Nat→Prop}{cs:List Value}{P:PPol}(h:PpIs w U cs P)(hu:∀d,U d→U' d):PpIs w U' cs P:=by
 obtain⟨pn,cn,c1,c2,c3,pc,cc,cells,h1,h2,h3,h4,h5,h6,h7⟩:=h;exact⟨pn,cn,c1,c2,c3,pc,cc,cells,h1,h2.mono hu,h3.mono hu,h4.mono hu,h5.mono hu,h6.mono hu,h7.mono hu⟩
def WG(w:World):Prop:=Glob w∧(∃a,w.cell? ⟨0,0,none⟩=some (.iface 346 (.pointer (some a))))∧15≤w.heap.size
end Go.Proofs.Pg
namespace Go.Proofs.Pg
open Go.RowKit
def PosIs(w:World)(U:Nat→Prop)(p:Option Addr)(l:List PPol):Prop:=∃cs,RwU w U 62 18 p l.length cs∧∀i a,l[i]? =some a→PpIs w U ((cs.drop (i*18)).take 18) a
theorem PpIs.after{w w':World}{U:Nat→Prop}{cs:List Value}{P:PPol}(h:PpIs w U cs P)(hb:Below w.heap.size w w'):PpIs w' U cs P:=h.extT (S:=fun _=>False) (.below hb) (fun _ _ _ _ _ _ h=>h)
theorem PpIs.len{w:World}{U:Nat→Prop}{cs:List Value}{P:PPol}(h:PpIs w U cs P):cs.length=18:=by
 obtain⟨pn,cn,s1,s2,s3,pc,cc,cells,rfl,-,⟨p1,d1,rfl,-⟩,⟨p2,d2,rfl,-⟩,⟨p3,d3,rfl,-⟩,-⟩:=h;rfl
end Go.Proofs.Pg
