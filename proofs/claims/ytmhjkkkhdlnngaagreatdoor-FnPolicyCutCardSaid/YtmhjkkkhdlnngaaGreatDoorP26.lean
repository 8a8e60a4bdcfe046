/- FnPolicyCut, part 26. -/
import Derived.Test.YtmhjkkkhdlnngaaGreatDoorP21
import Derived.Test.YtmhjkkkhdlnngaaGreatDoorP22
set_option linter.all false
set_option maxRecDepth 100000
set_option maxHeartbeats 0
namespace Go.Proofs.Pg
open Go.RowKit Go.Proofs.Tryz
attribute [local go_sem] Oper.semAt_some
theorem QfG(t i:ByteArray)(w:World):Calls prog 63 #[.agg #[.string t,.string i]] w fun e w'=>e=.returned (.agg #[.string t,.string i])∧Below w.heap.size w w':=by
 go_enter func63,ntmps63
 go_wp2_with fail
 exact bodyPost_ret (Qao (a:=2) (t:=56) (by kernel_rfl) _ ⟨w.heap.size+1,0,none⟩ rfl _ _ (QeP _ _ _ _ _ (by kernel_rfl) (by kernel_rfl) (Qaa (o:=0) (Qah (by simp) _) rfl) (Qaa (o:=1) (Qah (by simp) _) rfl))) rfl ⟨rfl,(Qab w _).alloc (by simp) _⟩
structure PSc where
 kind:Int
 u:ByteArray×ByteArray
 l:List (ByteArray×ByteArray)
 ty:ByteArray
def toSc:Scp→PSc
 | .all=>⟨0,(⟨#[]⟩,⟨#[]⟩),[],⟨#[]⟩⟩
 | .eq u=>⟨1,u,[],⟨#[]⟩⟩
 | .within u=>⟨2,u,[],⟨#[]⟩⟩
 | .inSet l=>⟨3,(⟨#[]⟩,⟨#[]⟩),l,⟨#[]⟩⟩
 | .is s=>⟨4,(⟨#[]⟩,⟨#[]⟩),[],s⟩
 | .isIn s u=>⟨5,u,[],s⟩
def ScsIs(w:World)(U:Nat→Prop)(cs:List Value)(s:PSc):Prop :=
 ∃p c,cs=[.int .i64 s.kind,.string s.u.1,.string s.u.2,.slice p s.l.length c,.string s.ty]∧RwU w U 56 2 p s.l.length (Qav s.l)
theorem ScsIs.ext{w w':World}{U U' S:Nat→Prop}{cs:List Value}{x:PSc}(h:ScsIs w U cs x)(he:Ext S w w')(hs:∀d,U d→d<w.heap.size→¬S d∧U' d):ScsIs w' U' cs x:=by
 obtain⟨p,c,h1,h2⟩:=h;exact⟨p,c,h1,h2.ext he hs⟩
def ScsP(w:World)(x:PSc)(e:Ending)(w':World):Prop:=Below w.heap.size w w'∧∃cs,ScsIs w' (w.heap.size≤·) cs x∧e=.returned (.agg cs.toArray)
theorem load5{P:Program}{t:TypeId}(b o:Nat)(w:World)(v0 v1 v2 v3 v4:Value)(ha:(isAgg t).run P w=.ok true w)(hs:(sizeOf t).run P w=.ok 5 w)(h0:w.cell? ⟨b,o,none⟩=some v0)(h1:w.cell? ⟨b,o+1,none⟩=some v1)
  (h2:w.cell? ⟨b,o+2,none⟩=some v2)(h3:w.cell? ⟨b,o+3,none⟩=some v3)(h4:w.cell? ⟨b,o+4,none⟩=some v4) :
  (loadVar t ⟨b,o,none⟩).run P w=.ok (.agg #[v0,v1,v2,v3,v4]) w:=by
 simp only[loadVar,Sem.run_bind,ha,hs,Result.andThen_ok,Sem.run_pure,if_true];simp[loadCells,go_sem,h0,h1,h2,h3,h4]
theorem QdP{W:World}{fn:Func}{R:Nat}{v0 v1 v2 v3 v4:Value}{Q:Ending→World→Prop}(a:Act)(s:Nat)(hf:fn.results=#[.cell s 59])(ha:a.tmps.getD s undef=.pointer (some ⟨R,0,none⟩))(had:a.defers=[])
  (r:W.heap[R]? =some (.cells #[v0,v1,v2,v3,v4] 59 (0,0)))(h:Q (.returned (.agg #[v0,v1,v2,v3,v4])) W):bodyPost prog fn Q Exit.ret a W :=
 bodyPost_ret (Qao (a:=s) (t:=59) hf _ ⟨R,0,none⟩ ha _ _ (load5 _ _ _ _ _ _ _ _ (by kernel_rfl) (by kernel_rfl) (Qaa (o:=0) r rfl) (Qaa (o:=1) r rfl) (Qaa (o:=2) r rfl) (Qaa (o:=3) r rfl) (Qaa (o:=4) r rfl))) had h
theorem QhP(T:TypeId)(v:Value)(w:World)(h:allV=.iface T v):Calls prog 50 #[allV] w (ScsP w (toSc .all)):=by
 unfold allV;go_enter func50,ntmps50
 go_wp2_with fail
 refine QdP _ 2 (by kernel_rfl) rfl rfl (Xa w _) ?_;exact⟨Qab w _,_,⟨none,0,rfl,.nil⟩,rfl⟩
theorem box5{w:World}{b:Nat}{c:Array Value}{e:TypeId}(h:w.heap[b]? =some (.cells c e (0,0)))(hc:c.size=5)(v0 v1 v2 v3 v4:Value) :
  ∃w',(((((w.setCell ⟨b,0,none⟩ v0).setCell ⟨b,1,none⟩ v1).setCell ⟨b,2,none⟩ v2).setCell ⟨b,3,none⟩ v3).setCell ⟨b,4,none⟩ v4)=w'∧w'.heap[b]? =some (.cells #[v0,v1,v2,v3,v4] e (0,0))∧Ext (·=b) w w':=by
 obtain⟨l⟩:=c
 match l,hc with
 | [a0,a1,a2,a3,a4],_ =>
  have s0:(w.setCell ⟨b,0,none⟩ v0).heap[b]? =some (.cells #[v0,a1,a2,a3,a4] e (0,0)):=Qac (o:=0) h v0;have s1:((w.setCell ⟨b,0,none⟩ v0).setCell ⟨b,1,none⟩ v1).heap[b]? =some (.cells #[v0,v1,a2,a3,a4] e (0,0)):=Qac (o:=1) s0 v1;have s2:(((w.setCell ⟨b,0,none⟩ v0).setCell ⟨b,1,none⟩ v1).setCell ⟨b,2,none⟩ v2).heap[b]? =some (.cells #[v0,v1,v2,a3,a4] e (0,0)):=Qac (o:=2) s1 v2;have s3:((((w.setCell ⟨b,0,none⟩ v0).setCell ⟨b,1,none⟩ v1).setCell ⟨b,2,none⟩ v2).setCell ⟨b,3,none⟩ v3).heap[b]? =some (.cells #[v0,v1,v2,v3,a4] e (0,0)):=Qac (o:=3) s2 v3
  have s4:(((((w.setCell ⟨b,0,none⟩ v0).setCell ⟨b,1,none⟩ v1).setCell ⟨b,2,none⟩ v2).setCell ⟨b,3,none⟩ v3).setCell ⟨b,4,none⟩ v4).heap[b]? =some (.cells #[v0,v1,v2,v3,v4] e (0,0)):=Qac (o:=4) s3 v4;exact⟨_,rfl,s4,(((((Ext.refl (·=b) w).set (p:=⟨b,0,none⟩) (.inl rfl) v0).set (p:=⟨b,1,none⟩) (.inl rfl) v1).set (p:=⟨b,2,none⟩) (.inl rfl) v2).set (p:=⟨b,3,none⟩) (.inl rfl) v3).set (p:=⟨b,4,none⟩) (.inl rfl) v4⟩
abbrev sZero:Array Value:=#[.int .i64 0,.string ⟨#[]⟩,.string ⟨#[]⟩,.slice none 0 0,.string ⟨#[]⟩]
theorem zero5{w:World}{R:Nat}(h:w.heap[R]? =some (.cells sZero 59 (0,0))):w.cell? ⟨R,0,none⟩=some (.int .i64 0)∧w.cell? ⟨R,1,none⟩=some (.string ⟨#[]⟩)∧w.cell? ⟨R,2,none⟩=some (.string ⟨#[]⟩)∧w.cell? ⟨R,3,none⟩=some (.slice none 0 0)∧w.cell? ⟨R,4,none⟩=some (.string ⟨#[]⟩)∧w.frozen? ⟨R,0,none⟩=false∧w.frozen? ⟨R,1,none⟩=false∧w.frozen? ⟨R,2,none⟩=false∧w.frozen? ⟨R,3,none⟩=false∧w.frozen? ⟨R,4,none⟩=false :=
 ⟨Qaa h rfl,Qaa h rfl,Qaa h rfl,Qaa h rfl,Qaa h rfl,Qae h 0,Qae h 1,Qae h 2,Qae h 3,Qae h 4⟩
theorem scope_eq(u:ByteArray×ByteArray)(w:World):Calls prog 50 #[.iface 169 (.agg #[.string u.1,.string u.2])] w (ScsP w (toSc (.eq u))):=by
 go_enter func50,ntmps50
 go_wp2_with fail
 refine(QfG _ _ _).mono ?_;rintro e w2⟨rfl,B2⟩;have hB1:=(Qab w (.cells sZero 59)).alloc (by simp) (.cells #[.string u.1,.string u.2] 169);have HR:=Hi ((B2.block _ (Qad (Qaf (Xa w (.cells sZero 59)) (.cells #[.string u.1,.string u.2] 169)))).trans (Qaf (Xa w (.cells sZero 59)) (.cells #[.string u.1,.string u.2] 169)));have HB:=Hi (hB1.trans (B2.mono hB1.size));clear B2 hB1;obtain⟨e0,e1,e2,e3,e4,f0,f1,f2,f3,f4⟩:=zero5 HR.out
 go_wp2_with fail
 obtain⟨w9,hw9,h9,hE⟩:=box5 HR.out rfl (.int .i64 1) (.string u.1) (.string u.2) (.slice none 0 0) (.string ⟨#[]⟩);rw[hw9];refine QdP _ 2 (by kernel_rfl) rfl rfl h9 ?_;exact⟨((Ext.below (S:=fun _=>False) HB.out).trans' hE (fun d hd=>by omega)).toBelow (fun _ h=>h.elim) (Xb _),_,⟨none,0,rfl,.nil⟩,rfl⟩
theorem QeG(u:ByteArray×ByteArray)(w:World):Calls prog 50 #[.iface 171 (.agg #[.string u.1,.string u.2])] w (ScsP w (toSc (.within u))):=by
 go_enter func50,ntmps50
 go_wp2_with fail
 refine(QfG _ _ _).mono ?_;rintro e w2⟨rfl,B2⟩;have hB1:=(Qab w (.cells sZero 59)).alloc (by simp) (.cells #[.string u.1,.string u.2] 171);have HR:=Hi ((B2.block _ (Qad (Qaf (Xa w (.cells sZero 59)) (.cells #[.string u.1,.string u.2] 171)))).trans (Qaf (Xa w (.cells sZero 59)) (.cells #[.string u.1,.string u.2] 171)));have HB:=Hi (hB1.trans (B2.mono hB1.size));clear B2 hB1;obtain⟨e0,e1,e2,e3,e4,f0,f1,f2,f3,f4⟩:=zero5 HR.out
 go_wp2_with fail
 obtain⟨w9,hw9,h9,hE⟩:=box5 HR.out rfl (.int .i64 2) (.string u.1) (.string u.2) (.slice none 0 0) (.string ⟨#[]⟩);rw[hw9];refine QdP _ 2 (by kernel_rfl) rfl rfl h9 ?_;exact⟨((Ext.below (S:=fun _=>False) HB.out).trans' hE (fun d hd=>by omega)).toBelow (fun _ h=>h.elim) (Xb _),_,⟨none,0,rfl,.nil⟩,rfl⟩
theorem scope_is(s:ByteArray)(w:World):Calls prog 50 #[.iface 176 (.agg #[.string s])] w (ScsP w (toSc (.is s))):=by
 go_enter func50,ntmps50
 go_wp2_with fail
 refine QdP _ 2 (by kernel_rfl) rfl rfl (by first | exact Xa w _ | exact Qaf (Xa w _) _) ?_;exact⟨by first | exact Qab w _ | exact(Qab w _).alloc (by simp) _,_,⟨none,0,rfl,.nil⟩,rfl⟩
theorem Qgn(s:ByteArray)(u:ByteArray×ByteArray)(w:World):Calls prog 50 #[.iface 178 (.agg #[.string s,.string u.1,.string u.2])] w (ScsP w (toSc (.isIn s u))):=by
 go_enter func50,ntmps50
 go_upto_region 22 with(fail)
 refine QaB fun w1 hw1=>?_
 have hB1:Below w.heap.size w w1:=by rw[hw1];exact(Qab w _).alloc (by simp) _
 have hr:w1.heap[w.heap.size]? =some (.cells sZero 59 (0,0)):=by rw[hw1];exact Qaf (Xa w _) _
 have hx:w1.heap[w.heap.size+1]? =some (.cells #[.string s,.string u.1,.string u.2] 178 (0,0)):=by rw[hw1];exact Qah (by simp) _
 clear hw1;have x0:w1.drew.cell? ⟨w.heap.size+1,0,none⟩=some (.string s):=Qaa (w:=w1) hx rfl;have x1:w1.drew.cell? ⟨w.heap.size+1,1,none⟩=some (.string u.1):=Qaa (w:=w1) hx rfl;have x2:w1.drew.cell? ⟨w.heap.size+1,2,none⟩=some (.string u.2):=Qaa (w:=w1) hx rfl;have HX:=Hi (Xc hB1 (Xc hr hx));clear hB1 hr hx
 go_region_with(go_at_call 63;refine(QfG _ _ _).mono ?_;rintro e w2 ⟨rfl,B2⟩;have x0':=(Ext.below (S:=fun _=>False) B2).cell (fun h=>h) x0;have HR2:=Hi ((B2.block _ (Qad (w:=w1.drew) HX.out.2.1)).trans HX.out.2.1);have HB2:=Hi B2;clear B2;obtain⟨e0,e1,e2,e3,e4,f0,f1,f2,f3,f4⟩:=zero5 HR2.out)
 all_goals
  go_wp2_with fail
  obtain⟨w9,hw9,h9,hE⟩:=box5 HR2.out rfl (.int .i64 5) (.string u.1) (.string u.2) (.slice none 0 0) (.string s);rw[hw9];refine QdP _ 2 (by kernel_rfl) rfl rfl h9 ?_;exact⟨((Ext.below (S:=fun _=>False) (HX.out.1.trans ((show Below w1.heap.size w1 w2 from⟨HB2.out.os,HB2.out.tape,HB2.out.output,HB2.out.size,HB2.out.block⟩).mono HX.out.1.size))).trans' hE (fun d hd=>by omega)).toBelow (fun _ h=>h.elim) (Xb _),_,⟨none,0,rfl,.nil⟩,rfl⟩
structure R1(e:TypeId)(sz:Nat)(vL:Value)(B n:Nat)(xs news:List Value)(w w':World):Prop where
 ext:Ext (fun d=>vL.ownBlock=some d) w w'
 a0:w.ownsRow B e sz vL n xs→w'.ownsRow B e sz vL n xs
 a1:∀v,w.ownsRow B e sz v (n+1) (xs++news)→w'.ownsRow B e sz v (n+1) (xs++news)
section
variable {e:TypeId}{sz:Nat}{vL:Value}{B n:Nat}{xs news:List Value}{w w' w'':World}
theorem R1.trans(h:R1 e sz vL B n xs news w w')(k:R1 e sz vL B n xs news w' w''):R1 e sz vL B n xs news w w'':=⟨h.ext.trans k.ext,fun x=>k.a0 (h.a0 x),fun v x=>k.a1 v (h.a1 v x)⟩
theorem R1.refl:R1 e sz vL B n xs news w w:=⟨.refl _ _,id,fun _ h=>h⟩
theorem R1.drew:R1 e sz vL B n xs news w w.drew:=⟨(Ext.refl _ _).drew,id,fun _ h=>h⟩
theorem R1.below(hb:Below w.heap.size w w'):R1 e sz vL B n xs news w w':=⟨.below hb,fun h=>Qaj (S:=fun _=>False) h (.below hb) (fun _ h=>h.elim),fun _ h=>Qaj (S:=fun _=>False) h (.below hb) (fun _ h=>h.elim)⟩
theorem R1.alloc(o:Obj):R1 e sz vL B n xs news w (w.alloc o):=.below (Qab w o)
theorem R1.grow(ho:w.ownsRow B e sz vL n xs)(hg:w.grownBy w' vL.ownBlock)(h0:w'.ownsRow B e sz vL n xs)(h1:∀v,w.ownsRow B e sz v (n+1) (xs++news)→w'.ownsRow B e sz v (n+1) (xs++news))(he:e≠348:=by decide):R1 e sz vL B n xs news w w':=⟨QaF ho hg he,fun _=>h0,h1⟩
end
theorem sl57:SlT prog 57 56 (.agg #[.string ⟨#[]⟩,.string ⟨#[]⟩]) 2 32:=⟨by kernel_rfl,⟨Tryz.t56,by kernel_rfl,by kernel_rfl,by kernel_rfl,by kernel_rfl⟩,rfl,by decide⟩
theorem QeH(w:World)(b:Nat):(Instr.fieldAt 59 (.pointer (some ⟨b,0,none⟩)) 2).run prog w=.ok (.pointer (some ⟨b,3,none⟩)) w:=by kernel_rfl
theorem ld57(w:World)(b o:Nat)(p:Option Addr)(n c:Nat)(h:w.cell? ⟨b,o,none⟩=some (.slice p n c)):(Instr.loadAt 57 (.pointer (some ⟨b,o,none⟩))).run prog w=.ok (.slice p n c) w:=by go_simp
theorem ld167(w:World)(b:Nat)(s t:ByteArray)(h0:w.cell? ⟨b,0,none⟩=some (.string s))(h1:w.cell? ⟨b,1,none⟩=some (.string t)):(Instr.loadAt 167 (.pointer (some ⟨b,0,none⟩))).run prog w=.ok (.agg #[.string s,.string t]) w:=by go_simp
theorem st57(w:World)(b o:Nat)(p:Option Addr)(n c:Nat)(u:Value)(h:w.cell? ⟨b,o,none⟩=some u)(hf:w.frozen? ⟨b,o,none⟩=false):(Instr.storeAt 57 (.pointer (some ⟨b,o,none⟩)) (.slice p n c)).run prog w=.ok () (w.setCell ⟨b,o,none⟩ (.slice p n c)):=by go_simp
theorem wpo_bs57{o:Oper}{a:Act}{w:World}{K:Act→World→Prop}{Q:Exit→Act→World→Prop}(x:Tmp)(ho:o.op=.buildSlice 57 1 #[(0,.tmp x)])(s t:ByteArray)(hx:a.eval (.tmp x)=.agg #[.string s,.string t])(h:K (a.put o.dst (.slice (some ⟨w.heap.size,0,none⟩) 1 1)) (w.alloc (.cells #[.string s,.string t] 56))):o.wp prog a w K Q:=by
 have hx':a.tmps[x]?.getD undef=.agg #[.string s,.string t]:=by simpa [Act.eval]using hx
 unfold Oper.wp;simp only[execOp,ho];go_simp;exact h
theorem Qcx(f:FuncId){P:Program}{o:Oper}{a:Act}{w:World}{K:Act→World→Prop}{Q:Exit→Act→World→Prop}(args:Array Operand)(ats:Array TypeId)(ho:o.op=.call {callee:=.value (.func f),args:=args,argTypes:=ats})(fn:Func)(hf:P.funcs[f]? =some fn)(hn:(fn.name == "runtime.NumGoroutine")=false)(hb:fn.body.isNone=false)
  (vs:List Value)(hvs:args.toList.map a.eval=vs)(R:Value→World→Prop)(hc:Calls P f vs.toArray w (fun e w'=>∃v,e=.returned v∧R v w'))(h:∀v w',R v w'→K (a.put o.dst v) w'):o.wp P a w K Q:=by
 have hvs':args.map a.eval=vs.toArray:=by rw[←hvs,←Array.toList_map,Array.toArray_toList]
 unfold Oper.wp;simp only[execOp,ho,resolve,Act.eval,Deferred.ofValue,invoke,callFunc,program,Sem.run_bind,Sem.run,Sem.run_pure,Result.andThen_ok,hf,hn,hb,Xf,if_false,Oper.upon];rw[hvs',Array.append_empty,Array.empty_append];refine Calls.mono hc fun e w' he=>?_
 obtain⟨y,rfl,hR⟩:=he;exact h y w' hR
def ΦS(B sb H:Nat)(vL:Value)(n:Nat)(u:ByteArray×ByteArray)(xs:List Value)(j:Nat)(v:Value)(w:World):Prop:=match j with
 | 0=>v=.pointer (some ⟨sb,3,none⟩)
 | 1=>v=vL
 | 2=>v=.agg #[.string u.1,.string u.2]
 | 3=>v=.agg #[.string u.1,.string u.2]
 | 4=>∃blk,v=.slice (some ⟨blk,0,none⟩) 1 1∧w.heap[blk]? =some (.cells #[.string u.1,.string u.2] 56 (0,0))∧H≤blk
 | 5=>w.ownsRow B 56 2 v (n+1) (xs++[.string u.1,.string u.2])
 | 6=>v=.pointer (some ⟨sb,3,none⟩)
 | _=>True
theorem ΦS.kept{B sb H:Nat}{vL:Value}{n:Nat}{u:ByteArray×ByteArray}{xs:List Value}{j:Nat}{v:Value}{w w':World}(hE:R1 56 2 vL B n xs [.string u.1,.string u.2] w w')(hA:∀k,vL.ownBlock=some k→k<H)
  (h:ΦS B sb H vL n u xs j v w):ΦS B sb H vL n u xs j v w':=by
 unfold ΦS at h ⊢;split<;>first | exact trivial | exact h | skip
 ·obtain⟨blk,h1,h2,h3⟩:=h
  exact⟨blk,h1,hE.ext.heap (fun e=>by have:=hA _ e;omega) h2,h3⟩
 ·exact hE.a1 _ h
def SsRl(w0:World)(l:List (ByteArray×ByteArray))(sl:Value)(wr:World):Prop :=
 ∃i vL,sl=.int .i64 ((i:Nat):Int)∧i≤l.length∧wr.heap[w0.heap.size]? =some (.cells sZero 59 (0,0))∧wr.heap[w0.heap.size+1+1]? =some (.cells #[.int .i64 3,.string ⟨#[]⟩,.string ⟨#[]⟩,vL,.string ⟨#[]⟩] 59 (0,0)) ∧
  wr.ownsRow (w0.heap.size+3) 56 2 vL i (Qav (l.take i))∧Below w0.heap.size w0 wr∧w0.heap.size+3≤wr.heap.size
theorem QhR(l:List (ByteArray×ByteArray))(hm:l.length≤1000000)(w:World)(lo c:Nat)(p:Option Addr)(hr:Row2At w lo 167 p l.length (fun i=>.string (l.getD i (⟨#[]⟩,⟨#[]⟩)).1) (fun i=>.string (l.getD i (⟨#[]⟩,⟨#[]⟩)).2)) :
  Calls prog 50 #[.iface 174 (.agg #[.slice p l.length c])] w (ScsP w (toSc (.inSet l))):=by
 have HRW:=Hi hr;clear hr;go_enter func50,ntmps50
 go_upto_region 12 with(fail)
 refine QaB fun w1 hw1=>?_
 have HQ:Hid (SsRl w l (.int .i64 0) w1):=Hi (by
  rw[hw1];refine⟨0,.slice none 0 0,rfl,Nat.zero_le _,Qaf (Qaf (Xa w _) _) _,Qah (by simp) _,⟨rfl,.inl ⟨rfl,rfl⟩⟩,((Qab w _).alloc (by simp) _).alloc (by simp;omega) _,by simp⟩)
 clear hw1
 go_loopw [33] (fun sl wr=>SsRl w l sl wr) (fun sl _=>l.length-(intOf sl).toNat)
 case atStart=>exact HQ.out
 case round =>
  clear HQ;obtain⟨i,vL,rfl,hi,hR,hY,hA,hBl,hz⟩:=hrel;obtain⟨pA,cA,rfl,-⟩:=RwU.own hA;have HR:=Hi hR;clear hR;have HA:=Hi hA;clear hA;have HB:=Hi hBl;clear hBl;by_cases hlt:i<l.length
  ·obtain⟨u,hu⟩:∃a,l[i]? =some a:=⟨l[i],by simp[hlt]⟩
   obtain⟨b,off,cc,fr,rfl,hlb,hcb,hcc⟩:=HRW.out.resolve_left (by omega);have hcc:=hcc i hlt;have hgd:l.getD i (⟨#[]⟩,⟨#[]⟩)=u:=by rw[List.getD_eq_getElem?_getD,hu];rfl
   simp only[hgd]at hcc;have hwb:=(HB.out.block b (Qad hcb)).trans hcb;have c0:wr.cell? ⟨b,off+i*2,none⟩=some (.string u.1):=Qaa hwb hcc.1;have c1:wr.cell? ⟨b,off+i*2+1,none⟩=some (.string u.2):=Qaa hwb hcc.2;have HX:=Hi hu;clear hu hcb hcc hwb hgd
   go_upto_region 14 with(fail)
   refine QaB fun w3 hw3=>?_
   have B3:Below wr.heap.size wr w3:=by rw[hw3];exact Qab wr _
   have heb:w3.heap[wr.heap.size]? =some (.cells #[.string u.1,.string u.2] 167 (0,0)):=by rw[hw3];exact Xa _ _
   have hz3:w3.heap.size=wr.heap.size+1:=by rw[hw3];simp
   clear hw3 c0 c1;have hY3:=Bk B3 hY;have hltA:=Qf8 HA.out;have hgeA:∀k,(Value.slice pA i cA).ownBlock=some k→w.heap.size+3≤k:=fun k hk=>(Qa5 HA.out hk).1
   have hA3:=Qaj (S:=fun _=>False) HA.out (.below B3) (fun _ h=>h.elim);refine QbE (by kernel_rfl) (by kernel_rfl) 7 (by decide) ?hcl ?htl (R1 56 2 (.slice pA i cA) (w.heap.size+3) i (Qav (l.take i)) [.string u.1,.string u.2]) (ΦS (w.heap.size+3) (w.heap.size+1+1) w3.heap.size (.slice pA i cA) i u (Qav (l.take i))) R1.drew (fun a b c h k=>h.trans k) ?hphi ?hop ?hlast
   case hcl =>
    intro listed hc hL j hj
    match j,hj with
    | 0,_=>exact hL _ rfl {on:=0,ground:=.phase} (by simp) rfl
    | 1,_=>exact hL _ rfl {on:=1,ground:=.phase} (by simp) rfl
    | 2,_=>exact hL _ rfl {on:=2,ground:=.phase} (by simp) rfl
    | 3,_=>exact hL _ rfl {on:=3,ground:=.phase} (by simp) rfl
    | 4,_=>exact hL _ rfl {on:=4,ground:=.phase} (by simp) rfl
    | 5,_=>exact hL _ rfl {on:=5,ground:=.phase} (by simp) rfl
    | 6,_=>exact hL _ rfl {on:=6,ground:=.data} (by simp) rfl
   case htl =>
    intro j o hj ho
    match j,hj,ho with
    | j+8,_,ho=>simp at ho
   case hphi =>
    intro j u w5 w6 hE h;exact h.kept hE (fun k hk=>by have:=hltA k hk;omega)
   case hop =>
    have hHs:∀w6,R1 56 2 (.slice pA i cA) (w.heap.size+3) i (Qav (l.take i)) [.string u.1,.string u.2] w3 w6→w6.heap[w.heap.size+1+1]? =some (.cells #[.int .i64 3,.string ⟨#[]⟩,.string ⟨#[]⟩,.slice pA i cA,.string ⟨#[]⟩] 59 (0,0))∧w6.heap[wr.heap.size]? =some (.cells #[.string u.1,.string u.2] 167 (0,0))∧w3.heap.size≤w6.heap.size:=fun w6 hE =>
     ⟨hE.ext.heap (fun e=>by have:=hgeA _ e;omega) hY3,hE.ext.heap (fun e=>by have:=hltA _ e;omega) heb,hE.ext.size⟩
    intro j o hj hi
    match j,hi,hj with
    | 0,hi,_ =>
     obtain rfl:=Xd hi;intro a1 w6 hE hoth hpre;exact Qaw 59 (.tmp 6) 2 rfl _ (hoth 6 (by decide)) _ (QeH w6 _) ⟨R1.refl,_,rfl,rfl⟩
    | 1,hi,_ =>
     obtain rfl:=Xd hi;intro a1 w6 hE hoth hpre;have h0:=hpre {on:=0,ground:=.data} (by simp) rfl _ rfl;exact QaO 57 (.tmp 37) rfl _ h0 _ (ld57 w6 _ _ _ _ _ (Qaa (hHs w6 hE).1 rfl)) ⟨R1.refl,_,rfl,rfl⟩
    | 2,hi,_ =>
     obtain rfl:=Xd hi;intro a1 w6 hE hoth hpre;exact QaO 167 (.tmp 8) rfl _ (hoth 8 (by decide)) _ (ld167 w6 _ _ _ (Qaa (hHs w6 hE).2.1 rfl) (Qaa (hHs w6 hE).2.1 rfl)) ⟨R1.refl,_,rfl,rfl⟩
    | 3,hi,_ =>
     obtain rfl:=Xd hi;intro a1 w6 hE hoth hpre;have h0:=hpre {on:=2,ground:=.data} (by simp) rfl _ rfl;refine Qcx 63 _ _ rfl _ func63 (by kernel_rfl) (by kernel_rfl) [.agg #[.string u.1,.string u.2]] ?_ (fun y w'=>y=.agg #[.string u.1,.string u.2]∧Below w6.heap.size w6 w') ?_ ?_
     ·have h1':a1.eval (.tmp 39)=.agg #[.string u.1,.string u.2]:=h0
      simp only[List.map_cons,List.map_nil,h1']
     ·exact Calls.mono (QfG _ _ w6) (fun e w' h=>⟨_,h.1,rfl,h.2⟩)
     ·rintro y w'⟨rfl,hb⟩
      exact⟨R1.below hb,_,rfl,rfl⟩
    | 4,hi,_ =>
     obtain rfl:=Xd hi;intro a1 w6 hE hoth hpre;have h0:=hpre {on:=3,ground:=.data} (by simp) rfl _ rfl;exact wpo_bs57 40 rfl _ _ h0 ⟨R1.alloc _,_,rfl,_,rfl,Xa w6 _,(hHs w6 hE).2.2⟩
    | 5,hi,_ =>
     obtain rfl:=Xd hi;intro a1 w6 hE hoth hpre;have h1:=hpre {on:=1,ground:=.data} (by simp) rfl _ rfl;have h4:=hpre {on:=4,ground:=.data} (by simp) rfl _ rfl;obtain⟨blk,hb1,hb2,hb3⟩:=h4;exact QcX sl57 (.tmp 38) (.tmp 41) rfl (w.heap.size+3) _ i _ h1 (hE.a0 hA3) blk [.string u.1,.string u.2] rfl hb1 (fun j u hj=>Qaa hb2 (by simpa using hj)) (fun v hv=>by simp at hv;rcases hv with rfl | rfl<;>rfl) (by unfold maxLen;omega) (by omega) (by have:=(hHs w6 hE).2.2;omega) (fun v' w' q1 q2 q3 q4 q5=>⟨R1.grow (hE.a0 hA3) q2 q3 q5,v',rfl,q1⟩)
    | 6,hi,_ =>
     obtain rfl:=Xd hi;intro a1 w6 hE hoth hpre;exact Qaw 59 (.tmp 6) 2 rfl _ (hoth 6 (by decide)) _ (QeH w6 _) ⟨R1.refl,_,rfl,rfl⟩
    | j+7,_,hj=>omega
   case hlast =>
    intro a1 W2 hF k;have h5:W2.ownsRow (w.heap.size+3) 56 2 (a1.tmps.getD 42 undef) (i+1) (Qav (l.take i)++[.string u.1,.string u.2]):=hF.facts 5 _ rfl rfl;have h11:a1.tmps.getD 43 undef=.pointer (some ⟨w.heap.size+1+1,3,none⟩):=hF.facts 6 _ rfl rfl;have hE:=hF.ext;obtain⟨fs,hfr,_⟩:=hF.frame;clear hF;obtain⟨p5,c5,hv5,-⟩:=RwU.own h5;rw[hv5]at h5;have hYW:=hE.ext.heap (fun e=>by have:=hgeA _ e;omega) hY3
    have hY8:=Qac (o:=3) hYW (.slice p5 (i+1) c5);refine Qcu (k:=k) (i:=7) (by kernel_rfl) rfl rfl ?_;refine Qct 57 (.tmp 43) (.tmp 42) rfl _ h11 _ hv5 _ (st57 W2 _ _ _ _ _ _ (Qaa hYW rfl) (Qae hYW 3)) ?_;refine Qd4 (by kernel_rfl) ?_ k;obtain⟨W9,hW9⟩:∃W9,W2.setCell ⟨w.heap.size+1+1,3,none⟩ (.slice p5 (i+1) c5)=W9:=⟨_,rfl⟩
    have hE9:Ext (·=w.heap.size+1+1) W2 W9:=by rw[←hW9];exact(Ext.refl (·=w.heap.size+1+1) W2).set (p:=⟨_,3,none⟩) (.inl rfl) _
    rw[hW9]at hY8 ⊢;clear hW9;have hBall:Below w.heap.size w W9:=(((Ext.below (S:=fun _=>False) (HB.out.trans (B3.mono HB.out.size))).trans' hE.ext (fun d hd=>.inr (by have:=hgeA _ hd;omega))).trans' hE9 (fun d hd=>.inr (by omega))).toBelow (fun _ h=>h.elim) (Xb _);have hR9:W9.heap[w.heap.size]? =some (.cells sZero 59 (0,0)):=hE9.heap (by omega) (hE.ext.heap (fun e=>by have:=hgeA _ e;omega) ((B3.block _ (Qad HR.out)).trans HR.out))
    have hz2:=hE.ext.size;have hkt:Qav (l.take (i+1))=Qav (l.take i)++[.string u.1,.string u.2]:=by rw[List.take_add_one,HX.out,Option.toList];exact Qbm _ _ _
    have HEND:Hid (SsRl w l (.int .i64 ((i:Int)+1)) W9):=Hi ⟨i+1,_,by go_num,by omega,hR9,hY8,by rw[hkt];exact Qaj h5 hE9 (fun d hd=>by omega),hBall,by have:=hE9.size;omega⟩;clear hBall hR9 hkt;subst hfr;rw[show Qbi _=[37,38,39,40,41,42,43]from rfl];simp (config:={decide:=true}) only[List.mapIdx_toArray,List.mapIdx_cons,List.mapIdx_nil,Nat.zero_add,Nat.reduceAdd,if_true,if_false,Act.put,List.setIfInBounds_toArray,List.set_cons_zero,List.set_cons_succ]
    clear h5 hv5 h11 hE hE9 hYW hY8;go_wp2;go_roundw
    case rel=>exact HEND.out
    case measure=>simp[intOf];omega
  ·obtain rfl:i=l.length:=by omega
   obtain⟨p5,c5,he5,hrA⟩:=RwU.own HA.out;cases he5;have HRO:=Hi hrA;clear hrA;have k0:wr.cell? ⟨w.heap.size+1+1,0,none⟩=some (.int .i64 3):=Qaa hY rfl;have k1:wr.cell? ⟨w.heap.size+1+1,1,none⟩=some (.string ⟨#[]⟩):=Qaa hY rfl;have k2:wr.cell? ⟨w.heap.size+1+1,2,none⟩=some (.string ⟨#[]⟩):=Qaa hY rfl;have k3:wr.cell? ⟨w.heap.size+1+1,3,none⟩=some (.slice pA l.length cA):=Qaa hY rfl;have k4:wr.cell? ⟨w.heap.size+1+1,4,none⟩=some (.string ⟨#[]⟩):=Qaa hY rfl
   clear hY;obtain⟨e0,e1,e2,e3,e4,f0,f1,f2,f3,f4⟩:=zero5 HR.out
   go_wp2_with fail
   obtain⟨w9,hw9,h9,hE⟩:=box5 HR.out rfl (.int .i64 3) (.string ⟨#[]⟩) (.string ⟨#[]⟩) (.slice pA l.length cA) (.string ⟨#[]⟩);rw[hw9];clear hw9;refine QdP _ 2 (by kernel_rfl) rfl rfl h9 ?_;refine⟨((Ext.below (S:=fun _=>False) HB.out).trans' hE (fun d hd=>by omega)).toBelow (fun _ h=>h.elim) (Xb _),_,⟨pA,cA,rfl,?_⟩,rfl⟩;have hrA:=HRO.out;rw[List.take_of_length_le (Xb _)]at hrA;exact hrA.ext (U':=(w.heap.size≤·)) hE (fun d hd _=>by omega)
theorem scope_c{s:Scp}(hl:∀l,s=.inSet l→l.length≤1000000){w:World}{lo:Nat}{v:Value}(h:ScIs w lo allV v s):Calls prog 50 #[v] w (ScsP w (toSc s)):=by
 cases s with
 | all=>cases h;exact QhP _ _ w rfl
 | eq u=>cases h;exact scope_eq u w
 | within u=>cases h;exact QeG u w
 | inSet l=>obtain⟨p,c,rfl,hr⟩:=h;exact QhR l (hl l rfl) w lo c p hr
 | is s=>cases h;exact scope_is s w
 | isIn s u=>cases h;exact Qgn s u w
abbrev pZero:Array Value:=#[.bool false,.slice none 0 0,.int .i64 0,.string ⟨#[]⟩,.string ⟨#[]⟩,.slice none 0 0,.string ⟨#[]⟩,.int .i64 0,.string ⟨#[]⟩,.string ⟨#[]⟩,.slice none 0 0,.string ⟨#[]⟩,.int .i64 0,.string ⟨#[]⟩,.string ⟨#[]⟩,.slice none 0 0,.string ⟨#[]⟩,.slice none 0 0]
theorem ext18{w:World}{b:Nat}(v0 v1 v2 v3 v4 v5 v6 v7 v8 v9 v10 v11 v12 v13 v14 v15 v16 v17:Value):Ext (·=b) w ((((((((((((((((((w.setCell ⟨b,0,none⟩ v0).setCell ⟨b,1,none⟩ v1).setCell ⟨b,2,none⟩ v2).setCell ⟨b,3,none⟩ v3).setCell ⟨b,4,none⟩ v4).setCell ⟨b,5,none⟩ v5).setCell ⟨b,6,none⟩ v6).setCell ⟨b,7,none⟩ v7).setCell ⟨b,8,none⟩ v8).setCell ⟨b,9,none⟩ v9).setCell ⟨b,10,none⟩ v10).setCell ⟨b,11,none⟩ v11).setCell ⟨b,12,none⟩ v12).setCell ⟨b,13,none⟩ v13).setCell ⟨b,14,none⟩ v14).setCell ⟨b,15,none⟩ v15).setCell ⟨b,16,none⟩ v16).setCell ⟨b,17,none⟩ v17) :=
 ((((((((((((((((((Ext.refl (·=b) w).set (p:=⟨b,0,none⟩) (.inl rfl) v0).set (p:=⟨b,1,none⟩) (.inl rfl) v1).set (p:=⟨b,2,none⟩) (.inl rfl) v2).set (p:=⟨b,3,none⟩) (.inl rfl) v3).set (p:=⟨b,4,none⟩) (.inl rfl) v4).set (p:=⟨b,5,none⟩) (.inl rfl) v5).set (p:=⟨b,6,none⟩) (.inl rfl) v6).set (p:=⟨b,7,none⟩) (.inl rfl) v7).set (p:=⟨b,8,none⟩) (.inl rfl) v8).set (p:=⟨b,9,none⟩) (.inl rfl) v9).set (p:=⟨b,10,none⟩) (.inl rfl) v10).set (p:=⟨b,11,none⟩) (.inl rfl) v11).set (p:=⟨b,12,none⟩) (.inl rfl) v12).set (p:=⟨b,13,none⟩) (.inl rfl) v13).set (p:=⟨b,14,none⟩) (.inl rfl) v14).set (p:=⟨b,15,none⟩) (.inl rfl) v15).set (p:=⟨b,16,none⟩) (.inl rfl) v16).set (p:=⟨b,17,none⟩) (.inl rfl) v17
theorem box18{w:World}{b:Nat}{c:Array Value}{e:TypeId}(h:w.heap[b]? =some (.cells c e (0,0)))(hc:c.size=18)(v0 v1 v2 v3 v4 v5 v6 v7 v8 v9 v10 v11 v12 v13 v14 v15 v16 v17:Value) :
  ∃w',((((((((((((((((((w.setCell ⟨b,0,none⟩ v0).setCell ⟨b,1,none⟩ v1).setCell ⟨b,2,none⟩ v2).setCell ⟨b,3,none⟩ v3).setCell ⟨b,4,none⟩ v4).setCell ⟨b,5,none⟩ v5).setCell ⟨b,6,none⟩ v6).setCell ⟨b,7,none⟩ v7).setCell ⟨b,8,none⟩ v8).setCell ⟨b,9,none⟩ v9).setCell ⟨b,10,none⟩ v10).setCell ⟨b,11,none⟩ v11).setCell ⟨b,12,none⟩ v12).setCell ⟨b,13,none⟩ v13).setCell ⟨b,14,none⟩ v14).setCell ⟨b,15,none⟩ v15).setCell ⟨b,16,none⟩ v16).setCell ⟨b,17,none⟩ v17)=w'∧w'.heap[b]? =some (.cells #[v0,v1,v2,v3,v4,v5,v6,v7,v8,v9,v10,v11,v12,v13,v14,v15,v16,v17] e (0,0))∧Ext (·=b) w w':=by
 refine⟨_,rfl,?_,ext18 v0 v1 v2 v3 v4 v5 v6 v7 v8 v9 v10 v11 v12 v13 v14 v15 v16 v17⟩;obtain⟨l⟩:=c
 match l,hc with
 | [a0,a1,a2,a3,a4,a5,a6,a7,a8,a9,a10,a11,a12,a13,a14,a15,a16,a17],_ =>
  obtain⟨w0,hw0⟩:∃x,w.setCell ⟨b,0,none⟩ v0=x:=⟨_,rfl⟩
  have s0:w0.heap[b]? =some (.cells #[v0,a1,a2,a3,a4,a5,a6,a7,a8,a9,a10,a11,a12,a13,a14,a15,a16,a17] e (0,0)):=hw0▸Qac (o:=0) h v0;obtain⟨w1,hw1⟩:∃x,w0.setCell ⟨b,1,none⟩ v1=x:=⟨_,rfl⟩
  have s1:w1.heap[b]? =some (.cells #[v0,v1,a2,a3,a4,a5,a6,a7,a8,a9,a10,a11,a12,a13,a14,a15,a16,a17] e (0,0)):=hw1▸Qac (o:=1) s0 v1;obtain⟨w2,hw2⟩:∃x,w1.setCell ⟨b,2,none⟩ v2=x:=⟨_,rfl⟩
  have s2:w2.heap[b]? =some (.cells #[v0,v1,v2,a3,a4,a5,a6,a7,a8,a9,a10,a11,a12,a13,a14,a15,a16,a17] e (0,0)):=hw2▸Qac (o:=2) s1 v2;obtain⟨w3,hw3⟩:∃x,w2.setCell ⟨b,3,none⟩ v3=x:=⟨_,rfl⟩
  have s3:w3.heap[b]? =some (.cells #[v0,v1,v2,v3,a4,a5,a6,a7,a8,a9,a10,a11,a12,a13,a14,a15,a16,a17] e (0,0)):=hw3▸Qac (o:=3) s2 v3;obtain⟨w4,hw4⟩:∃x,w3.setCell ⟨b,4,none⟩ v4=x:=⟨_,rfl⟩
  have s4:w4.heap[b]? =some (.cells #[v0,v1,v2,v3,v4,a5,a6,a7,a8,a9,a10,a11,a12,a13,a14,a15,a16,a17] e (0,0)):=hw4▸Qac (o:=4) s3 v4;obtain⟨w5,hw5⟩:∃x,w4.setCell ⟨b,5,none⟩ v5=x:=⟨_,rfl⟩
  have s5:w5.heap[b]? =some (.cells #[v0,v1,v2,v3,v4,v5,a6,a7,a8,a9,a10,a11,a12,a13,a14,a15,a16,a17] e (0,0)):=hw5▸Qac (o:=5) s4 v5;obtain⟨w6,hw6⟩:∃x,w5.setCell ⟨b,6,none⟩ v6=x:=⟨_,rfl⟩
  have s6:w6.heap[b]? =some (.cells #[v0,v1,v2,v3,v4,v5,v6,a7,a8,a9,a10,a11,a12,a13,a14,a15,a16,a17] e (0,0)):=hw6▸Qac (o:=6) s5 v6;obtain⟨w7,hw7⟩:∃x,w6.setCell ⟨b,7,none⟩ v7=x:=⟨_,rfl⟩
  have s7:w7.heap[b]? =some (.cells #[v0,v1,v2,v3,v4,v5,v6,v7,a8,a9,a10,a11,a12,a13,a14,a15,a16,a17] e (0,0)):=hw7▸Qac (o:=7) s6 v7;obtain⟨w8,hw8⟩:∃x,w7.setCell ⟨b,8,none⟩ v8=x:=⟨_,rfl⟩
  have s8:w8.heap[b]? =some (.cells #[v0,v1,v2,v3,v4,v5,v6,v7,v8,a9,a10,a11,a12,a13,a14,a15,a16,a17] e (0,0)):=hw8▸Qac (o:=8) s7 v8;obtain⟨w9,hw9⟩:∃x,w8.setCell ⟨b,9,none⟩ v9=x:=⟨_,rfl⟩
  have s9:w9.heap[b]? =some (.cells #[v0,v1,v2,v3,v4,v5,v6,v7,v8,v9,a10,a11,a12,a13,a14,a15,a16,a17] e (0,0)):=hw9▸Qac (o:=9) s8 v9;obtain⟨w10,hw10⟩:∃x,w9.setCell ⟨b,10,none⟩ v10=x:=⟨_,rfl⟩
  have s10:w10.heap[b]? =some (.cells #[v0,v1,v2,v3,v4,v5,v6,v7,v8,v9,v10,a11,a12,a13,a14,a15,a16,a17] e (0,0)):=hw10▸Qac (o:=10) s9 v10;obtain⟨w11,hw11⟩:∃x,w10.setCell ⟨b,11,none⟩ v11=x:=⟨_,rfl⟩
  have s11:w11.heap[b]? =some (.cells #[v0,v1,v2,v3,v4,v5,v6,v7,v8,v9,v10,v11,a12,a13,a14,a15,a16,a17] e (0,0)):=hw11▸Qac (o:=11) s10 v11;obtain⟨w12,hw12⟩:∃x,w11.setCell ⟨b,12,none⟩ v12=x:=⟨_,rfl⟩
  have s12:w12.heap[b]? =some (.cells #[v0,v1,v2,v3,v4,v5,v6,v7,v8,v9,v10,v11,v12,a13,a14,a15,a16,a17] e (0,0)):=hw12▸Qac (o:=12) s11 v12;obtain⟨w13,hw13⟩:∃x,w12.setCell ⟨b,13,none⟩ v13=x:=⟨_,rfl⟩
  have s13:w13.heap[b]? =some (.cells #[v0,v1,v2,v3,v4,v5,v6,v7,v8,v9,v10,v11,v12,v13,a14,a15,a16,a17] e (0,0)):=hw13▸Qac (o:=13) s12 v13;obtain⟨w14,hw14⟩:∃x,w13.setCell ⟨b,14,none⟩ v14=x:=⟨_,rfl⟩
  have s14:w14.heap[b]? =some (.cells #[v0,v1,v2,v3,v4,v5,v6,v7,v8,v9,v10,v11,v12,v13,v14,a15,a16,a17] e (0,0)):=hw14▸Qac (o:=14) s13 v14;obtain⟨w15,hw15⟩:∃x,w14.setCell ⟨b,15,none⟩ v15=x:=⟨_,rfl⟩
  have s15:w15.heap[b]? =some (.cells #[v0,v1,v2,v3,v4,v5,v6,v7,v8,v9,v10,v11,v12,v13,v14,v15,a16,a17] e (0,0)):=hw15▸Qac (o:=15) s14 v15;obtain⟨w16,hw16⟩:∃x,w15.setCell ⟨b,16,none⟩ v16=x:=⟨_,rfl⟩
  have s16:w16.heap[b]? =some (.cells #[v0,v1,v2,v3,v4,v5,v6,v7,v8,v9,v10,v11,v12,v13,v14,v15,v16,a17] e (0,0)):=hw16▸Qac (o:=16) s15 v16;obtain⟨w17,hw17⟩:∃x,w16.setCell ⟨b,17,none⟩ v17=x:=⟨_,rfl⟩
  have s17:w17.heap[b]? =some (.cells #[v0,v1,v2,v3,v4,v5,v6,v7,v8,v9,v10,v11,v12,v13,v14,v15,v16,v17] e (0,0)):=hw17▸Qac (o:=17) s16 v17;rw[hw0,hw1,hw2,hw3,hw4,hw5,hw6,hw7,hw8,hw9,hw10,hw11,hw12,hw13,hw14,hw15,hw16,hw17];exact s17
theorem zero18{w:World}{R:Nat}{T:TypeId}(h:w.heap[R]? =some (.cells pZero T (0,0))):w.cell? ⟨R,0,none⟩=some (.bool false)∧w.cell? ⟨R,1,none⟩=some (.slice none 0 0)∧w.cell? ⟨R,2,none⟩=some (.int .i64 0)∧w.cell? ⟨R,3,none⟩=some (.string ⟨#[]⟩)∧w.cell? ⟨R,4,none⟩=some (.string ⟨#[]⟩)∧w.cell? ⟨R,5,none⟩=some (.slice none 0 0)∧w.cell? ⟨R,6,none⟩=some (.string ⟨#[]⟩)∧w.cell? ⟨R,7,none⟩=some (.int .i64 0)∧w.cell? ⟨R,8,none⟩=some (.string ⟨#[]⟩)∧w.cell? ⟨R,9,none⟩=some (.string ⟨#[]⟩)∧w.cell? ⟨R,10,none⟩=some (.slice none 0 0)∧w.cell? ⟨R,11,none⟩=some (.string ⟨#[]⟩)∧w.cell? ⟨R,12,none⟩=some (.int .i64 0)∧w.cell? ⟨R,13,none⟩=some (.string ⟨#[]⟩)∧w.cell? ⟨R,14,none⟩=some (.string ⟨#[]⟩)∧w.cell? ⟨R,15,none⟩=some (.slice none 0 0)∧w.cell? ⟨R,16,none⟩=some (.string ⟨#[]⟩)∧w.cell? ⟨R,17,none⟩=some (.slice none 0 0)∧w.frozen? ⟨R,0,none⟩=false∧w.frozen? ⟨R,1,none⟩=false∧w.frozen? ⟨R,2,none⟩=false∧w.frozen? ⟨R,3,none⟩=false∧w.frozen? ⟨R,4,none⟩=false∧w.frozen? ⟨R,5,none⟩=false∧w.frozen? ⟨R,6,none⟩=false∧w.frozen? ⟨R,7,none⟩=false∧w.frozen? ⟨R,8,none⟩=false∧w.frozen? ⟨R,9,none⟩=false∧w.frozen? ⟨R,10,none⟩=false∧w.frozen? ⟨R,11,none⟩=false∧w.frozen? ⟨R,12,none⟩=false∧w.frozen? ⟨R,13,none⟩=false∧w.frozen? ⟨R,14,none⟩=false∧w.frozen? ⟨R,15,none⟩=false∧w.frozen? ⟨R,16,none⟩=false∧w.frozen? ⟨R,17,none⟩=false :=
 ⟨Qaa h rfl,Qaa h rfl,Qaa h rfl,Qaa h rfl,Qaa h rfl,Qaa h rfl,Qaa h rfl,Qaa h rfl,Qaa h rfl,Qaa h rfl,Qaa h rfl,Qaa h rfl,Qaa h rfl,Qaa h rfl,Qaa h rfl,Qaa h rfl,Qaa h rfl,Qaa h rfl,Qae h 0,Qae h 1,Qae h 2,Qae h 3,Qae h 4,Qae h 5,Qae h 6,Qae h 7,Qae h 8,Qae h 9,Qae h 10,Qae h 11,Qae h 12,Qae h 13,Qae h 14,Qae h 15,Qae h 16,Qae h 17⟩
theorem load18{P:Program}{t:TypeId}(b o:Nat)(w:World)(v0 v1 v2 v3 v4 v5 v6 v7 v8 v9 v10 v11 v12 v13 v14 v15 v16 v17:Value)(ha:(isAgg t).run P w=.ok true w)(hs:(sizeOf t).run P w=.ok 18 w)(h0:w.cell? ⟨b,o,none⟩=some v0)(h1:w.cell? ⟨b,o+1,none⟩=some v1)(h2:w.cell? ⟨b,o+2,none⟩=some v2)(h3:w.cell? ⟨b,o+3,none⟩=some v3)(h4:w.cell? ⟨b,o+4,none⟩=some v4)(h5:w.cell? ⟨b,o+5,none⟩=some v5)(h6:w.cell? ⟨b,o+6,none⟩=some v6)(h7:w.cell? ⟨b,o+7,none⟩=some v7)(h8:w.cell? ⟨b,o+8,none⟩=some v8)(h9:w.cell? ⟨b,o+9,none⟩=some v9)(h10:w.cell? ⟨b,o+10,none⟩=some v10)(h11:w.cell? ⟨b,o+11,none⟩=some v11)(h12:w.cell? ⟨b,o+12,none⟩=some v12)(h13:w.cell? ⟨b,o+13,none⟩=some v13)(h14:w.cell? ⟨b,o+14,none⟩=some v14)(h15:w.cell? ⟨b,o+15,none⟩=some v15)(h16:w.cell? ⟨b,o+16,none⟩=some v16)(h17:w.cell? ⟨b,o+17,none⟩=some v17) :
  (loadVar t ⟨b,o,none⟩).run P w=.ok (.agg #[v0,v1,v2,v3,v4,v5,v6,v7,v8,v9,v10,v11,v12,v13,v14,v15,v16,v17]) w:=by
 simp only[loadVar,Sem.run_bind,ha,hs,Result.andThen_ok,Sem.run_pure,if_true];simp[loadCells,go_sem,h0,h1,h2,h3,h4,h5,h6,h7,h8,h9,h10,h11,h12,h13,h14,h15,h16,h17]
theorem ret_pol{W:World}{fn:Func}{R:Nat}{v0 v1 v2 v3 v4 v5 v6 v7 v8 v9 v10 v11 v12 v13 v14 v15 v16 v17 ok:Value}{Q:Ending→World→Prop}(a:Act)(s s2:Nat)(hf:fn.results=#[.cell s 62,.tmp s2])(ha:a.tmps.getD s undef=.pointer (some ⟨R,0,none⟩))(he:a.tmps.getD s2 undef=ok)(had:a.defers=[])
  (r:W.heap[R]? =some (.cells #[v0,v1,v2,v3,v4,v5,v6,v7,v8,v9,v10,v11,v12,v13,v14,v15,v16,v17] 62 (0,0)))(h:Q (.returned (.tuple #[.agg #[v0,v1,v2,v3,v4,v5,v6,v7,v8,v9,v10,v11,v12,v13,v14,v15,v16,v17],ok])) W):bodyPost prog fn Q Exit.ret a W:=by
 refine bodyPost_ret (QaH (a:=s) (t:=62) hf _ ⟨R,0,none⟩ ha _ _ (load18 _ _ _ _ _ _ _ _ _ _ _ _ _ _ _ _ _ _ _ _ _ (by kernel_rfl) (by kernel_rfl) (Qaa (o:=0) r rfl) (Qaa (o:=1) r rfl) (Qaa (o:=2) r rfl) (Qaa (o:=3) r rfl) (Qaa (o:=4) r rfl) (Qaa (o:=5) r rfl) (Qaa (o:=6) r rfl) (Qaa (o:=7) r rfl) (Qaa (o:=8) r rfl) (Qaa (o:=9) r rfl) (Qaa (o:=10) r rfl) (Qaa (o:=11) r rfl) (Qaa (o:=12) r rfl) (Qaa (o:=13) r rfl) (Qaa (o:=14) r rfl) (Qaa (o:=15) r rfl) (Qaa (o:=16) r rfl) (Qaa (o:=17) r rfl))) had ?_
 rw[he];exact h
theorem QbL{P:Program}{o:Oper}{a:Act}{w:World}{K:Act→World→Prop}{Q:Exit→Act→World→Prop}(x:Operand)(ho:o.op=.nilCheck x)(p:Addr)(hx:a.eval x=.pointer (some p))(h:K (a.put o.dst (.pointer (some p))) w):o.wp P a w K Q:=by
 unfold Oper.wp;simp only[execOp,ho,hx,Sem.run_pure,Oper.upon];exact h
theorem QcI{P:Program}{o:Oper}{a:Act}{w:World}{K:Act→World→Prop}{Q:Exit→Act→World→Prop}(op:BinOp)(t t2:TypeId)(x y:Operand)(ho:o.op=.binOp op t x y t2)(vx vy:Value)(hx:a.eval x=vx)(hy:a.eval y=vy)(v:Value)(hr:(do eqGuard op t x y vx vy;binOp op t vx vy).run P w=.ok v w)(h:K (a.put o.dst v) w):o.wp P a w K Q:=by
 unfold Oper.wp;simp only[execOp,ho,hx,hy,Sem.run_bind,hr,Result.andThen_ok,Sem.run_pure,Oper.upon];exact h
theorem Qgo(w:World)(b:Nat):(Instr.fieldAt 128 (.pointer (some ⟨b,0,none⟩)) 0).run prog w=.ok (.pointer (some ⟨b,0,none⟩)) w:=by kernel_rfl
theorem Qgp(w:World)(b:Nat):(Instr.fieldAt 128 (.pointer (some ⟨b,0,none⟩)) 2).run prog w=.ok (.pointer (some ⟨b,2,none⟩)) w:=by kernel_rfl
theorem Qgq(w:World)(b:Nat):(Instr.fieldAt 128 (.pointer (some ⟨b,0,none⟩)) 3).run prog w=.ok (.pointer (some ⟨b,3,none⟩)) w:=by kernel_rfl
theorem Qgr(w:World)(b:Nat):(Instr.fieldAt 128 (.pointer (some ⟨b,0,none⟩)) 4).run prog w=.ok (.pointer (some ⟨b,4,none⟩)) w:=by kernel_rfl
theorem ld90(w:World)(b o:Nat)(x:Bool)(h:w.cell? ⟨b,o,none⟩=some (.bool x)):(Instr.loadAt 90 (.pointer (some ⟨b,o,none⟩))).run prog w=.ok (.bool x) w:=by go_simp
theorem ld93(w:World)(b o:Nat)(T:TypeId)(x:Value)(h:w.cell? ⟨b,o,none⟩=some (.iface T x)):(Instr.loadAt 93 (.pointer (some ⟨b,o,none⟩))).run prog w=.ok (.iface T x) w:=by go_simp
theorem ld95(w:World)(b o:Nat)(T:TypeId)(x:Value)(h:w.cell? ⟨b,o,none⟩=some (.iface T x)):(Instr.loadAt 95 (.pointer (some ⟨b,o,none⟩))).run prog w=.ok (.iface T x) w:=by go_simp
theorem ld97(w:World)(b o:Nat)(T:TypeId)(x:Value)(h:w.cell? ⟨b,o,none⟩=some (.iface T x)):(Instr.loadAt 97 (.pointer (some ⟨b,o,none⟩))).run prog w=.ok (.iface T x) w:=by go_simp
theorem eql90(w:World)(x:Bool):(do eqGuard .eql 90 (.tmp 14) (.const (.bool false)) (.bool x) (.bool false);binOp .eql 90 (.bool x) (.bool false)).run prog w=.ok (.bool (!x)) w:=by cases x<;>kernel_rfl
theorem Qfp{o:Oper}{a:Act}{w:World}{K:Act→World→Prop}{Q:Exit→Act→World→Prop}(ho:o.op=.alloc 62)(h:K (a.put o.dst (.pointer (some ⟨w.heap.size,0,none⟩))) (w.alloc (.cells pZero 62))):o.wp prog a w K Q:=by
 unfold Oper.wp;simp only[execOp,ho];go_simp;exact h
abbrev pCell(f:Bool)(n:Value)(k1:Int)(t1 i1:ByteArray)(l1:Value)(y1:ByteArray)(k2:Int)(t2 i2:ByteArray)(l2:Value)(y2:ByteArray)(k3:Int)(t3 i3:ByteArray)(l3:Value)(y3:ByteArray)(c:Value):Array Value :=
 #[.bool f,n,.int .i64 k1,.string t1,.string i1,l1,.string y1,.int .i64 k2,.string t2,.string i2,l2,.string y2,.int .i64 k3,.string t3,.string i3,l3,.string y3,c]
theorem Qfq{o:Oper}{a:Act}{w:World}{K:Act→World→Prop}{Q:Exit→Act→World→Prop}(ho:o.op=.build 62 #[(0,.tmp 15),(2,.tmp 20),(3,.tmp 25),(4,.tmp 30)])(f:Bool)(k1:Int)(t1 i1:ByteArray)(p1:Option Addr)(n1 c1:Nat)(y1:ByteArray)(k2:Int)(t2 i2:ByteArray)(p2:Option Addr)(n2 c2:Nat)(y2:ByteArray)(k3:Int)(t3 i3:ByteArray)(p3:Option Addr)(n3 c3:Nat)(y3:ByteArray)
  (h0:a.eval (.tmp 15)=.bool f)(h1:a.eval (.tmp 20)=.agg #[.int .i64 k1,.string t1,.string i1,.slice p1 n1 c1,.string y1])(h2:a.eval (.tmp 25)=.agg #[.int .i64 k2,.string t2,.string i2,.slice p2 n2 c2,.string y2])(h3:a.eval (.tmp 30)=.agg #[.int .i64 k3,.string t3,.string i3,.slice p3 n3 c3,.string y3])
  (h:K (a.put o.dst (.agg (pCell f (.slice none 0 0) k1 t1 i1 (.slice p1 n1 c1) y1 k2 t2 i2 (.slice p2 n2 c2) y2 k3 t3 i3 (.slice p3 n3 c3) y3 (.slice none 0 0)))) w):o.wp prog a w K Q:=by
 have h0':a.tmps[15]?.getD undef=.bool f:=by simpa [Act.eval]using h0
 have h1':a.tmps[20]?.getD undef=.agg #[.int .i64 k1,.string t1,.string i1,.slice p1 n1 c1,.string y1]:=by simpa [Act.eval]using h1
 have h2':a.tmps[25]?.getD undef=.agg #[.int .i64 k2,.string t2,.string i2,.slice p2 n2 c2,.string y2]:=by simpa [Act.eval]using h2
 have h3':a.tmps[30]?.getD undef=.agg #[.int .i64 k3,.string t3,.string i3,.slice p3 n3 c3,.string y3]:=by simpa [Act.eval]using h3
 unfold Oper.wp;simp only[execOp,ho];go_simp;exact h
structure PPol where
 forbid:Bool
 notes:List (ByteArray×ByteArray)
 pr:PSc
 ac:PSc
 re:PSc
 conds:List (Bool×PEx)
def Qb1(P:Pol):PPol:=⟨!P.eff,P.notes,toSc P.pr,toSc P.ac,toSc P.re,P.cs.map fun c=>(!c.1,toP c.2)⟩
def CnIs(w:World)(U:Nat→Prop)(cs:List Value)(l:List (Bool×PEx)):Prop :=
 cs.length=l.length*12∧∀i a,l[i]? =some a→cs[i*12]? =some (.bool a.1)∧PxIs w U ((cs.drop (i*12+1)).take 11) a.2
theorem CnIs.ext{w w':World}{U U' S:Nat→Prop}{cs:List Value}{l:List (Bool×PEx)}(h:CnIs w U cs l)(he:Ext S w w')(hs:∀d,U d→d<w.heap.size→¬S d∧U' d):CnIs w' U' cs l:=⟨h.1,fun i a hi=>⟨(h.2 i a hi).1,(h.2 i a hi).2.ext he hs⟩⟩
theorem CnIs.snoc{w:World}{U:Nat→Prop}{cs ds:List Value}{l:List (Bool×PEx)}{b:Bool}{x:PEx}(h:CnIs w U cs l)(hx:PxIs w U ds x):CnIs w U (cs++.bool b::ds) (l++[(b,x)]):=by
 have h11:=hx.len;refine⟨by simp[h.1,h11,Nat.add_mul],fun i a hi=>?_⟩;have hc:=h.1;by_cases hl:i<l.length
 ·rw[List.getElem?_append_left hl]at hi
  have:=h.2 i a hi;rw[List.getElem?_append_left (by omega),List.drop_append_of_le_length (by omega),List.take_append_of_le_length (by rw[List.length_drop];omega)];exact this
 ·rw[List.getElem?_append_right (by omega)]at hi
  have h0:i=l.length:=by
   have:=(List.getElem?_eq_some_iff.1 hi).1;simp at this;omega
  subst h0;simp at hi;subst hi;refine⟨by rw[List.getElem?_append_right (by omega),hc,Nat.sub_self];rfl,?_⟩;rw[List.drop_append,List.drop_eq_nil_of_le (by omega),hc,Nat.add_sub_cancel_left,List.nil_append,List.drop_succ_cons,List.drop_zero,List.take_of_length_le (by omega)];exact hx
def PpIs(w:World)(U:Nat→Prop)(cs:List Value)(P:PPol):Prop :=
 ∃pn cn c1 c2 c3 pc cc cells,cs=.bool P.forbid::.slice pn P.notes.length cn::(c1++c2++c3++[.slice pc P.conds.length cc])∧RwU w U 66 2 pn P.notes.length (Qav P.notes)∧ScsIs w U c1 P.pr∧ScsIs w U c2 P.ac∧ScsIs w U c3 P.re∧RwU w U 80 12 pc P.conds.length cells∧CnIs w U cells P.conds
theorem st62(w:World)(b:Nat)(T:TypeId)(f:Bool)(pn:Option Addr)(nn cn:Nat)(pc:Option Addr)(nc cc:Nat)(k1:Int)(t1 i1:ByteArray)(p1:Option Addr)(n1 c1:Nat)(y1:ByteArray)(k2:Int)(t2 i2:ByteArray)(p2:Option Addr)(n2 c2:Nat)(y2:ByteArray)(k3:Int)(t3 i3:ByteArray)(p3:Option Addr)(n3 c3:Nat)(y3:ByteArray)(h:w.heap[b]? =some (.cells pZero T (0,0))) :
  ∃w',(Instr.storeAt 62 (.pointer (some ⟨b,0,none⟩)) (.agg (pCell f (.slice pn nn cn) k1 t1 i1 (.slice p1 n1 c1) y1 k2 t2 i2 (.slice p2 n2 c2) y2 k3 t3 i3 (.slice p3 n3 c3) y3 (.slice pc nc cc)))).run prog w=.ok () w'∧w'.heap[b]? =some (.cells (pCell f (.slice pn nn cn) k1 t1 i1 (.slice p1 n1 c1) y1 k2 t2 i2 (.slice p2 n2 c2) y2 k3 t3 i3 (.slice p3 n3 c3) y3 (.slice pc nc cc)) T (0,0))∧Ext (·=b) w w':=by
 obtain⟨e0,e1,e2,e3,e4,e5,e6,e7,e8,e9,e10,e11,e12,e13,e14,e15,e16,e17,f0,f1,f2,f3,f4,f5,f6,f7,f8,f9,f10,f11,f12,f13,f14,f15,f16,f17⟩:=zero18 h;obtain⟨w',hw,h1,h2⟩:=box18 h rfl (.bool f) (.slice pn nn cn) (.int .i64 k1) (.string t1) (.string i1) (.slice p1 n1 c1) (.string y1) (.int .i64 k2) (.string t2) (.string i2) (.slice p2 n2 c2) (.string y2) (.int .i64 k3) (.string t3) (.string i3) (.slice p3 n3 c3) (.string y3) (.slice pc nc cc)
 refine⟨w',?_,h1,h2⟩;rw[←hw];clear hw h1 h2 h;go_simp
def ΦP(tb H:Nat)(f:Bool)(prv acv rev:Value)(pr ac re:PSc)(j:Nat)(v:Value)(w:World):Prop:=match j with
 | 0=>v=.pointer (some ⟨tb,0,none⟩)
 | 1=>v=.pointer (some ⟨tb,0,none⟩)
 | 2=>v=.pointer (some ⟨tb,0,none⟩)
 | 3=>v=.bool f
 | 4=>v=.bool (!f)
 | 5=>v=.pointer (some ⟨tb,0,none⟩)
 | 6=>v=.pointer (some ⟨tb,0,none⟩)
 | 7=>v=.pointer (some ⟨tb,2,none⟩)
 | 8=>v=prv
 | 9=>∃cs,v=.agg cs.toArray∧ScsIs w (H≤·) cs pr
 | 10=>v=.pointer (some ⟨tb,0,none⟩)
 | 11=>v=.pointer (some ⟨tb,0,none⟩)
 | 12=>v=.pointer (some ⟨tb,3,none⟩)
 | 13=>v=acv
 | 14=>∃cs,v=.agg cs.toArray∧ScsIs w (H≤·) cs ac
 | 15=>v=.pointer (some ⟨tb,0,none⟩)
 | 16=>v=.pointer (some ⟨tb,0,none⟩)
 | 17=>v=.pointer (some ⟨tb,4,none⟩)
 | 18=>v=rev
 | 19=>∃cs,v=.agg cs.toArray∧ScsIs w (H≤·) cs re
 | 20=>∃c1 c2 c3,v=.agg (.bool (!f)::.slice none 0 0::(c1++c2++c3++[.slice none 0 0])).toArray∧ScsIs w (H≤·) c1 pr∧ScsIs w (H≤·) c2 ac∧ScsIs w (H≤·) c3 re
 | 21=>∃blk,v=.pointer (some ⟨blk,0,none⟩)∧w.heap[blk]? =some (.cells pZero 62 (0,0))∧H≤blk
 | _=>True
theorem ScsIs.stay{w w':World}{U:Nat→Prop}{cs:List Value}{x:PSc}(h:ScsIs w U cs x)(he:Ext (fun _=>False) w w'):ScsIs w' U cs x:=h.ext he (fun d hd _=>⟨id,hd⟩)
theorem ΦP.kept{tb H:Nat}{f:Bool}{prv acv rev:Value}{pr ac re:PSc}{j:Nat}{v:Value}{w w':World}(hE:Ext (fun _=>False) w w')(h:ΦP tb H f prv acv rev pr ac re j v w):ΦP tb H f prv acv rev pr ac re j v w':=by
 unfold ΦP at h ⊢;split<;>first | exact trivial | exact h | skip
 ·obtain⟨cs,h1,h2⟩:=h;exact⟨cs,h1,h2.stay hE⟩
 ·obtain⟨cs,h1,h2⟩:=h;exact⟨cs,h1,h2.stay hE⟩
 ·obtain⟨cs,h1,h2⟩:=h;exact⟨cs,h1,h2.stay hE⟩
 ·obtain⟨c1,c2,c3,h1,h2,h3,h4⟩:=h;exact⟨c1,c2,c3,h1,h2.stay hE,h3.stay hE,h4.stay hE⟩
 ·obtain⟨blk,h1,h2,h3⟩:=h;exact⟨blk,h1,hE.heap id h2,h3⟩
theorem QcJ{w:World}{d:Nat}{c c':Array Value}{T T':TypeId}{fr fr':Nat×Nat}(h:w.heap[d]? =some (.cells c T fr))(h':w.heap[d]? =some (.cells c' T' fr'))(hne:T≠T'):False:=by
 rw[h]at h';cases h';exact hne rfl
theorem RwU.extT{w w':World}{U S:Nat→Prop}{tag z:Nat}{p:Option Addr}{n:Nat}{cs:List Value}(h:RwU w U tag z p n cs)(he:Ext S w w')(hs:∀d c fr,w.heap[d]? =some (.cells c tag fr)→¬S d):RwU w' U tag z p n cs:=by
 obtain⟨h1,h2 | ⟨b,off,c,fr,a1,a2,a3,a4⟩⟩:=h
 ·exact⟨h1,.inl h2⟩
 ·exact⟨h1,.inr ⟨b,off,c,fr,a1,a2,he.heap (hs b _ _ a3) a3,a4⟩⟩
theorem RwU.mono{w:World}{U U':Nat→Prop}{tag z:Nat}{p:Option Addr}{n:Nat}{cs:List Value}(h:RwU w U tag z p n cs)(hu:∀d,U d→U' d):RwU w U' tag z p n cs:=by
 obtain⟨h1,h2 | ⟨b,off,c,fr,a1,a2,a3⟩⟩:=h
 ·exact⟨h1,.inl h2⟩
 ·exact⟨h1,.inr ⟨b,off,c,fr,a1,hu _ a2,a3⟩⟩
theorem PxIs.extT{w w':World}{U S:Nat→Prop}{cs:List Value}{x:PEx}(h:PxIs w U cs x)(he:Ext S w w')(h9:∀d c fr,w.heap[d]? =some (.cells c 9 fr)→¬S d)(h33:∀d c fr,w.heap[d]? =some (.cells c 33 fr)→¬S d):PxIs w' U cs x:=by
 induction h with
 | mk op s v keys pieces l pk pp pl ck cp cl cs hk hp hl _ ih=>exact .mk op s v keys pieces l pk pp pl ck cp cl cs (hk.extT he h9) (hp.extT he h9) (hl.extT he h33) ih
theorem PxIs.mono{w:World}{U U':Nat→Prop}{cs:List Value}{x:PEx}(h:PxIs w U cs x)(hu:∀d,U d→U' d):PxIs w U' cs x:=h.ext (S:=fun _=>False) (.refl _ _) (fun d hd _=>⟨id,hu d hd⟩)
theorem CnIs.extT{w w':World}{U S:Nat→Prop}{cs:List Value}{l:List (Bool×PEx)}(h:CnIs w U cs l)(he:Ext S w w')(h9:∀d c fr,w.heap[d]? =some (.cells c 9 fr)→¬S d)(h33:∀d c fr,w.heap[d]? =some (.cells c 33 fr)→¬S d):CnIs w' U cs l:=⟨h.1,fun i a hi=>⟨(h.2 i a hi).1,(h.2 i a hi).2.extT he h9 h33⟩⟩
theorem CnIs.nil{w:World}{U:Nat→Prop}:CnIs w U [] []:=⟨rfl,fun i a h=>by simp at h⟩
def S3(w:World)(H:Nat)(pr ac re:PSc)(p1 p2 p3:Option Addr):Prop :=
 RwU w (H≤·) 56 2 p1 pr.l.length (Qav pr.l)∧RwU w (H≤·) 56 2 p2 ac.l.length (Qav ac.l)∧RwU w (H≤·) 56 2 p3 re.l.length (Qav re.l)
theorem S3.extT{w w':World}{S:Nat→Prop}{H:Nat}{pr ac re:PSc}{p1 p2 p3:Option Addr}(h:S3 w H pr ac re p1 p2 p3)(he:Ext S w w')(hs:∀d c fr,w.heap[d]? =some (.cells c 56 fr)→¬S d):S3 w' H pr ac re p1 p2 p3 :=
 ⟨h.1.extT he hs,h.2.1.extT he hs,h.2.2.extT he hs⟩
abbrev pC(f:Bool)(pr ac re:PSc)(p1 p2 p3:Option Addr)(c1 c2 c3:Nat)(n c:Value):Array Value :=
 pCell f n pr.kind pr.u.1 pr.u.2 (.slice p1 pr.l.length c1) pr.ty ac.kind ac.u.1 ac.u.2 (.slice p2 ac.l.length c2) ac.ty re.kind re.u.1 re.u.2 (.slice p3 re.l.length c3) re.ty c
theorem sl54:SlT prog 54 66 (.agg #[.string ⟨#[]⟩,.string ⟨#[]⟩]) 2 32:=⟨by kernel_rfl,⟨Tryz.t66,by kernel_rfl,by kernel_rfl,by kernel_rfl,by kernel_rfl⟩,rfl,by decide⟩
theorem sl60:SlT prog 60 80 (.agg #[.bool false,.int .i64 0,.string ⟨#[]⟩,.int .i64 0,.int .i64 0,.string ⟨#[]⟩,.string ⟨#[]⟩,.slice none 0 0,.slice none 0 0,.slice none 0 0,.slice none 0 0,.slice none 0 0]) 12 200:=⟨by kernel_rfl,⟨Tryz.t80,by kernel_rfl,by kernel_rfl,by kernel_rfl,by kernel_rfl⟩,rfl,by decide⟩
def NtRl(w0:World)(f:Bool)(pr ac re:PSc)(p1 p2 p3:Option Addr)(c1 c2 c3 blk:Nat)(l:List (ByteArray×ByteArray))(sl:Value)(wr:World):Prop :=
 ∃i vN,sl=.int .i64 ((i:Nat):Int)∧i≤l.length∧wr.heap[w0.heap.size]? =some (.cells pZero 62 (0,0))∧wr.heap[blk]? =some (.cells (pC f pr ac re p1 p2 p3 c1 c2 c3 vN (.slice none 0 0)) 62 (0,0)) ∧
  wr.ownsRow w0.heap.size 66 2 vN i (Qav (l.take i))∧S3 wr w0.heap.size pr ac re p1 p2 p3∧Below w0.heap.size w0 wr
def CdRl(w0:World)(f:Bool)(pr ac re:PSc)(p1 p2 p3:Option Addr)(c1 c2 c3 blk:Nat)(pN:Option Addr)(cN:Nat)(ns:List (ByteArray×ByteArray))(ys:List (Bool×PEx))(sl:Value)(wr:World):Prop :=
 ∃i vC cs,sl=.int .i64 ((i:Nat):Int)∧i≤ys.length∧wr.heap[w0.heap.size]? =some (.cells pZero 62 (0,0))∧wr.heap[blk]? =some (.cells (pC f pr ac re p1 p2 p3 c1 c2 c3 (.slice pN ns.length cN) vC) 62 (0,0)) ∧
  RwU wr (w0.heap.size≤·) 66 2 pN ns.length (Qav ns)∧wr.ownsRow w0.heap.size 80 12 vC i cs∧CnIs wr (w0.heap.size≤·) cs (ys.take i)∧S3 wr w0.heap.size pr ac re p1 p2 p3∧Below w0.heap.size w0 wr
theorem wpL_load{P:Program}{ops:Array Oper}{rest:List Oper}{o:Oper}{a:Act}{w:World}{Q:Exit→Act→World→Prop}(hg:o.guard=none)(t:TypeId)(x:Operand)(ho:o.op=.load t x)(p:Value)(hx:a.eval x=p)(v:Value)(hr:(Instr.loadAt t p).run P w=.ok v w)(h:wpList P ops Q rest (a.put o.dst v) w):wpList P ops Q (o::rest) a w :=
 wpList_plain hg fun K hK=>QaO t x ho p hx v hr (hK _ _ h)
theorem QdA{P:Program}{ops:Array Oper}{rest:List Oper}{o:Oper}{a:Act}{w:World}{Q:Exit→Act→World→Prop}(hg:o.guard=none)(t:TypeId)(x y:Operand)(ho:o.op=.store t x y)(p:Value)(hx:a.eval x=p)(v:Value)(hy:a.eval y=v)(w':World)(hr:(Instr.storeAt t p v).run P w=.ok () w')(h:wpList P ops Q rest (a.put o.dst undef) w'):wpList P ops Q (o::rest) a w :=
 wpList_plain hg fun K hK=>Qct t x y ho p hx v hy w' hr (hK _ _ h)
theorem ld62(w:World)(b:Nat)(f:Bool)(pn:Option Addr)(nn cn:Nat)(k1:Int)(t1 i1:ByteArray)(p1:Option Addr)(n1 c1:Nat)(y1:ByteArray)(k2:Int)(t2 i2:ByteArray)(p2:Option Addr)(n2 c2:Nat)(y2:ByteArray)(k3:Int)(t3 i3:ByteArray)(p3:Option Addr)(n3 c3:Nat)(y3:ByteArray)(pc:Option Addr)(nc cc:Nat)
  (h:w.heap[b]? =some (.cells (pCell f (.slice pn nn cn) k1 t1 i1 (.slice p1 n1 c1) y1 k2 t2 i2 (.slice p2 n2 c2) y2 k3 t3 i3 (.slice p3 n3 c3) y3 (.slice pc nc cc)) 62 (0,0))) :
  (Instr.loadAt 62 (.pointer (some ⟨b,0,none⟩))).run prog w=.ok (.agg (pCell f (.slice pn nn cn) k1 t1 i1 (.slice p1 n1 c1) y1 k2 t2 i2 (.slice p2 n2 c2) y2 k3 t3 i3 (.slice p3 n3 c3) y3 (.slice pc nc cc))) w:=by
 have hl:=load18 (P:=prog) (t:=62) b 0 w _ _ _ _ _ _ _ _ _ _ _ _ _ _ _ _ _ _ (by kernel_rfl) (by kernel_rfl) (Qaa (o:=0) h rfl) (Qaa (o:=1) h rfl) (Qaa (o:=2) h rfl) (Qaa (o:=3) h rfl) (Qaa (o:=4) h rfl) (Qaa (o:=5) h rfl) (Qaa (o:=6) h rfl) (Qaa (o:=7) h rfl) (Qaa (o:=8) h rfl) (Qaa (o:=9) h rfl) (Qaa (o:=10) h rfl) (Qaa (o:=11) h rfl) (Qaa (o:=12) h rfl) (Qaa (o:=13) h rfl) (Qaa (o:=14) h rfl) (Qaa (o:=15) h rfl) (Qaa (o:=16) h rfl) (Qaa (o:=17) h rfl)
 exact hl
def SrcN(w:World)(p:Option Addr)(l:List (ByteArray×ByteArray)):Prop :=
 ∀i u,l[i]? =some u→∃b off c fr,p=some ⟨b,off,none⟩∧w.heap[b]? =some (.cells c 133 fr)∧c[off+i*2]? =some (.string u.1)∧c[off+i*2+1]? =some (.string u.2)
def SrcC(w:World)(base:Nat)(p:Option Addr)(l:List (Bool×Ex)):Prop :=
 ∀i a,l[i]? =some a→∃b off c fr T v,p=some ⟨b,off,none⟩∧w.heap[b]? =some (.cells c 138 fr)∧c[off+i*2]? =some (.bool a.1)∧c[off+i*2+1]? =some (.iface T v)∧NodeIs w base (.iface T v) a.2
theorem srcN{w:World}{B:Nat}{p:Option Addr}{c:Nat}{l:List (ByteArray×ByteArray)}(h:w.ownsRow B 133 2 (.slice p l.length c) l.length (Qav l)):SrcN w p l:=by
 intro i u hu;obtain⟨p',c',he,h1,h2⟩:=RwU.own h;cases he;have hi:i<l.length:=(List.getElem?_eq_some_iff.1 hu).1;obtain⟨b,off,cc,fr,rfl,_,a2,a3⟩:=h2.resolve_left (by omega);have h3:=Qcd l i hi;rw[List.getD_eq_getElem?_getD,hu]at h3;exact⟨b,off,cc,fr,rfl,a2,(a3 _ (by omega)).trans h3.1,(a3 (i*2+1) (by omega)).trans h3.2⟩
theorem srcC{w:World}{base B:Nat}{p:Option Addr}{c:Nat}{cells:List Value}{l:List (Bool×Ex)}(h:w.ownsRow B 138 2 (.slice p l.length c) l.length cells)(hc:CondsIs w base cells l):SrcC w base p l:=by
 intro i u hu;obtain⟨p',c',he,h1,h2⟩:=RwU.own h;cases he;have hi:i<l.length:=(List.getElem?_eq_some_iff.1 hu).1;obtain⟨b,off,cc,fr,rfl,_,a2,a3⟩:=h2.resolve_left (by omega);obtain⟨h3,T,v,h4,h5⟩:=hc.2 i u hu;exact⟨b,off,cc,fr,T,v,rfl,a2,(a3 _ (by omega)).trans h3,(a3 (i*2+1) (by omega)).trans h4,h5⟩
structure OkPol(P:Pol):Prop where
 notes:P.notes.length≤1000000
 conds:P.cs.length≤1000000
 okE:∀c∈P.cs,OkE c.2
 pr:∀l,P.pr=.inSet l→l.length≤1000000
 ac:∀l,P.ac=.inSet l→l.length≤1000000
 re:∀l,P.re=.inSet l→l.length≤1000000
def PolP(w:World)(P:PPol)(e:Ending)(w':World):Prop:=Below w.heap.size w w'∧∃cs,PpIs w' (w.heap.size≤·) cs P∧e=.returned (.tuple #[.agg cs.toArray,.bool true])
theorem policy38{P:Pol}(hok:OkPol P)(w:World)(base B tb:Nat)(TT:TypeId)(h:PolIs w base B tb TT P):Calls prog 38 #[.pointer (some ⟨tb,0,none⟩)] w (PolP w (Qb1 P)):=by
 obtain⟨pn,cn,prv,acv,rev,pc,cc,cells,hT,hN,hpr,hac,hre,hC,hCs⟩:=h;have HN:=Hi (srcN hN);clear hN;have HC:=Hi (srcC hC hCs);clear hC hCs;obtain⟨pr,hprE⟩:∃x,toSc P.pr=x:=⟨_,rfl⟩
 obtain⟨ac,hacE⟩:∃x,toSc P.ac=x:=⟨_,rfl⟩
 obtain⟨re,hreE⟩:∃x,toSc P.re=x:=⟨_,rfl⟩
 obtain⟨T1,x1,rfl⟩:=hpr.iface;obtain⟨T2,x2,rfl⟩:=hac.iface;obtain⟨T3,x3,rfl⟩:=hre.iface;obtain⟨f,hf⟩:∃x,P.eff=x:=⟨_,rfl⟩
 rw[hf]at hT;have HOK:=Hi hok;clear hok;go_enter func38,ntmps38
 go_upto_region 1 with(fail)
 refine QaB fun w1 hw1=>?_
 have B1:Below w.heap.size w w1:=by rw[hw1];exact Qab w _
 have hR1:w1.heap[w.heap.size]? =some (.cells pZero 62 (0,0)):=by rw[hw1];exact Xa _ _
 have hz1:w1.heap.size=w.heap.size+1:=by rw[hw1];simp
 clear hw1;have hT1:=Bk B1 hT;have hpr1:=hpr.ext (S:=fun _=>False) (.below B1) (fun _ h=>h.elim);have hac1:=hac.ext (S:=fun _=>False) (.below B1) (fun _ h=>h.elim);have hre1:=hre.ext (S:=fun _=>False) (.below B1) (fun _ h=>h.elim);have htl:tb<w.heap.size:=Qad hT;refine QbE (by kernel_rfl) (by kernel_rfl) 22 (by decide) ?hcl ?htl (Ext (fun _=>False)) (ΦP tb w1.heap.size f (.iface T1 x1) (.iface T2 x2) (.iface T3 x3) pr ac re) ((Ext.refl _ _).drew) (fun a b c h k=>h.trans k) (fun j v w5 w6 hE h=>h.kept hE) ?hop ?hlast
 case hcl =>
  intro listed hc hL j hj
  match j,hj with
  | 0,_=>exact hL _ rfl {on:=0,ground:=.phase} (by simp) rfl
  | 1,_=>exact hL _ rfl {on:=1,ground:=.phase} (by simp) rfl
  | 2,_=>exact hL _ rfl {on:=2,ground:=.phase} (by simp) rfl
  | 3,_=>exact hL _ rfl {on:=3,ground:=.phase} (by simp) rfl
  | 4,_=>exact hL _ rfl {on:=4,ground:=.phase} (by simp) rfl
  | 5,_=>exact hL _ rfl {on:=5,ground:=.phase} (by simp) rfl
  | 6,_=>exact hL _ rfl {on:=6,ground:=.phase} (by simp) rfl
  | 7,_=>exact hL _ rfl {on:=7,ground:=.phase} (by simp) rfl
  | 8,_=>exact hL _ rfl {on:=8,ground:=.phase} (by simp) rfl
  | 9,_=>exact hL _ rfl {on:=9,ground:=.phase} (by simp) rfl
  | 10,_=>exact hL _ rfl {on:=10,ground:=.phase} (by simp) rfl
  | 11,_=>exact hL _ rfl {on:=11,ground:=.phase} (by simp) rfl
  | 12,_=>exact hL _ rfl {on:=12,ground:=.phase} (by simp) rfl
  | 13,_=>exact hL _ rfl {on:=13,ground:=.phase} (by simp) rfl
  | 14,_=>exact hL _ rfl {on:=14,ground:=.phase} (by simp) rfl
  | 15,_=>exact hL _ rfl {on:=15,ground:=.phase} (by simp) rfl
  | 16,_=>exact hL _ rfl {on:=16,ground:=.phase} (by simp) rfl
  | 17,_=>exact hL _ rfl {on:=17,ground:=.phase} (by simp) rfl
  | 18,_=>exact hL _ rfl {on:=18,ground:=.phase} (by simp) rfl
  | 19,_=>exact hL _ rfl {on:=19,ground:=.phase} (by simp) rfl
  | 20,_=>exact hL _ rfl {on:=20,ground:=.phase} (by simp) rfl
  | 21,_=>exact hL _ rfl {on:=21,ground:=.phase} (by simp) rfl
  | j+22,hj=>omega
 case htl =>
  intro j o hj ho
  match j,hj,ho with
  | j+23,_,ho=>simp at ho
 case hop =>
  have hHs:∀w6,Ext (fun _=>False) w1 w6→w6.heap[tb]? =some (.cells #[.bool f,.slice pn P.notes.length cn,.iface T1 x1,.iface T2 x2,.iface T3 x3,.slice pc P.cs.length cc,.string P.fn,.int .i64 P.off,.int .i64 P.ln,.int .i64 P.col] TT (0,0)):=fun w6 hE=>hE.heap id hT1
  have scCall:∀(s:Scp)(sc:PSc)(T:TypeId)(x:Value),toSc s=sc→(∀l,s=.inSet l→l.length≤1000000)→ScIs w1 base allV (.iface T x) s→∀w6,Ext (fun _=>False) w1 w6→Calls prog 50 #[.iface T x] w6 (fun e w'=>∃v,e=.returned v∧(∃cs,v=.agg cs.toArray∧ScsIs w' (w1.heap.size≤·) cs sc)∧Ext (fun _=>False) w6 w'):=by
   intro s sc T x hs hl h1 w6 hE;refine(scope_c hl (h1.ext hE (fun _ h=>h.elim))).mono ?_;rintro e w'⟨hb,cs,hcs,rfl⟩;rw[hs]at hcs;have hsz:=hE.size;exact⟨_,rfl,⟨cs,rfl,hcs.ext (S:=fun _=>False) (.refl _ _) (fun d hd _=>⟨id,by omega⟩)⟩,.below hb⟩
  intro j o hj hi
  match j,hi,hj with
  | 0,hi,_ =>
   obtain rfl:=Xd hi;intro a1 w6 hE hoth hpre;exact Qb5 (.tmp 0) rfl _ (hoth 0 (by decide)) ⟨.refl _ _,_,rfl,rfl⟩
  | 1,hi,_ =>
   obtain rfl:=Xd hi;intro a1 w6 hE hoth hpre;exact QbL (.tmp 11) rfl _ (hpre {on:=0,ground:=.data} (by simp) rfl _ rfl) ⟨.refl _ _,_,rfl,rfl⟩
  | 2,hi,_ =>
   obtain rfl:=Xd hi;intro a1 w6 hE hoth hpre;exact Qaw 128 (.tmp 12) 0 rfl _ (hpre {on:=1,ground:=.data} (by simp) rfl _ rfl) _ (Qgo w6 _) ⟨.refl _ _,_,rfl,rfl⟩
  | 3,hi,_ =>
   obtain rfl:=Xd hi;intro a1 w6 hE hoth hpre;exact QaO 90 (.tmp 13) rfl _ (hpre {on:=2,ground:=.data} (by simp) rfl _ rfl) _ (ld90 w6 _ _ _ (Qaa (hHs w6 hE) rfl)) ⟨.refl _ _,_,rfl,rfl⟩
  | 4,hi,_ =>
   obtain rfl:=Xd hi;intro a1 w6 hE hoth hpre;exact QcI .eql 90 90 (.tmp 14) (.const (.bool false)) rfl _ _ (hpre {on:=3,ground:=.data} (by simp) rfl _ rfl) rfl _ (eql90 w6 f) ⟨.refl _ _,_,rfl,rfl⟩
  | 5,hi,_ =>
   obtain rfl:=Xd hi;intro a1 w6 hE hoth hpre;exact Qb5 (.tmp 0) rfl _ (hoth 0 (by decide)) ⟨.refl _ _,_,rfl,rfl⟩
  | 6,hi,_ =>
   obtain rfl:=Xd hi;intro a1 w6 hE hoth hpre;exact QbL (.tmp 16) rfl _ (hpre {on:=5,ground:=.data} (by simp) rfl _ rfl) ⟨.refl _ _,_,rfl,rfl⟩
  | 7,hi,_ =>
   obtain rfl:=Xd hi;intro a1 w6 hE hoth hpre;exact Qaw 128 (.tmp 17) 2 rfl _ (hpre {on:=6,ground:=.data} (by simp) rfl _ rfl) _ (Qgp w6 _) ⟨.refl _ _,_,rfl,rfl⟩
  | 8,hi,_ =>
   obtain rfl:=Xd hi;intro a1 w6 hE hoth hpre;exact QaO 93 (.tmp 18) rfl _ (hpre {on:=7,ground:=.data} (by simp) rfl _ rfl) _ (ld93 w6 _ _ _ _ (Qaa (hHs w6 hE) rfl)) ⟨.refl _ _,_,rfl,rfl⟩
  | 9,hi,_ =>
   obtain rfl:=Xd hi;intro a1 w6 hE hoth hpre;have h0:=hpre {on:=8,ground:=.data} (by simp) rfl _ rfl;refine Qcx 50 _ _ rfl _ func50 (by kernel_rfl) (by kernel_rfl) [.iface T1 x1] ?_ (fun y w'=>(∃cs,y=.agg cs.toArray∧ScsIs w' (w1.heap.size≤·) cs pr)∧Ext (fun _=>False) w6 w') (scCall _ _ _ _ hprE HOK.out.pr hpr1 w6 hE) ?_
   ·have h1':a1.eval (.tmp 19)=.iface T1 x1:=h0
    simp only[List.map_cons,List.map_nil,h1']
   ·rintro y w'⟨hy,hb⟩
    exact⟨hb,_,rfl,hy⟩
  | 10,hi,_ =>
   obtain rfl:=Xd hi;intro a1 w6 hE hoth hpre;exact Qb5 (.tmp 0) rfl _ (hoth 0 (by decide)) ⟨.refl _ _,_,rfl,rfl⟩
  | 11,hi,_ =>
   obtain rfl:=Xd hi;intro a1 w6 hE hoth hpre;exact QbL (.tmp 21) rfl _ (hpre {on:=10,ground:=.data} (by simp) rfl _ rfl) ⟨.refl _ _,_,rfl,rfl⟩
  | 12,hi,_ =>
   obtain rfl:=Xd hi;intro a1 w6 hE hoth hpre;exact Qaw 128 (.tmp 22) 3 rfl _ (hpre {on:=11,ground:=.data} (by simp) rfl _ rfl) _ (Qgq w6 _) ⟨.refl _ _,_,rfl,rfl⟩
  | 13,hi,_ =>
   obtain rfl:=Xd hi;intro a1 w6 hE hoth hpre;exact QaO 95 (.tmp 23) rfl _ (hpre {on:=12,ground:=.data} (by simp) rfl _ rfl) _ (ld95 w6 _ _ _ _ (Qaa (hHs w6 hE) rfl)) ⟨.refl _ _,_,rfl,rfl⟩
  | 14,hi,_ =>
   obtain rfl:=Xd hi;intro a1 w6 hE hoth hpre;have h0:=hpre {on:=13,ground:=.data} (by simp) rfl _ rfl;refine Qcx 50 _ _ rfl _ func50 (by kernel_rfl) (by kernel_rfl) [.iface T2 x2] ?_ (fun y w'=>(∃cs,y=.agg cs.toArray∧ScsIs w' (w1.heap.size≤·) cs ac)∧Ext (fun _=>False) w6 w') (scCall _ _ _ _ hacE HOK.out.ac hac1 w6 hE) ?_
   ·have h1':a1.eval (.tmp 24)=.iface T2 x2:=h0
    simp only[List.map_cons,List.map_nil,h1']
   ·rintro y w'⟨hy,hb⟩
    exact⟨hb,_,rfl,hy⟩
  | 15,hi,_ =>
   obtain rfl:=Xd hi;intro a1 w6 hE hoth hpre;exact Qb5 (.tmp 0) rfl _ (hoth 0 (by decide)) ⟨.refl _ _,_,rfl,rfl⟩
  | 16,hi,_ =>
   obtain rfl:=Xd hi;intro a1 w6 hE hoth hpre;exact QbL (.tmp 26) rfl _ (hpre {on:=15,ground:=.data} (by simp) rfl _ rfl) ⟨.refl _ _,_,rfl,rfl⟩
  | 17,hi,_ =>
   obtain rfl:=Xd hi;intro a1 w6 hE hoth hpre;exact Qaw 128 (.tmp 27) 4 rfl _ (hpre {on:=16,ground:=.data} (by simp) rfl _ rfl) _ (Qgr w6 _) ⟨.refl _ _,_,rfl,rfl⟩
  | 18,hi,_ =>
   obtain rfl:=Xd hi;intro a1 w6 hE hoth hpre;exact QaO 97 (.tmp 28) rfl _ (hpre {on:=17,ground:=.data} (by simp) rfl _ rfl) _ (ld97 w6 _ _ _ _ (Qaa (hHs w6 hE) rfl)) ⟨.refl _ _,_,rfl,rfl⟩
  | 19,hi,_ =>
   obtain rfl:=Xd hi;intro a1 w6 hE hoth hpre;have h0:=hpre {on:=18,ground:=.data} (by simp) rfl _ rfl;refine Qcx 50 _ _ rfl _ func50 (by kernel_rfl) (by kernel_rfl) [.iface T3 x3] ?_ (fun y w'=>(∃cs,y=.agg cs.toArray∧ScsIs w' (w1.heap.size≤·) cs re)∧Ext (fun _=>False) w6 w') (scCall _ _ _ _ hreE HOK.out.re hre1 w6 hE) ?_
   ·have h1':a1.eval (.tmp 29)=.iface T3 x3:=h0
    simp only[List.map_cons,List.map_nil,h1']
   ·rintro y w'⟨hy,hb⟩
    exact⟨hb,_,rfl,hy⟩
  | 20,hi,_ =>
   obtain rfl:=Xd hi;intro a1 w6 hE hoth hpre;have h0:=hpre {on:=4,ground:=.data} (by simp) rfl _ rfl;obtain⟨s1,h1,q1⟩:=hpre {on:=9,ground:=.data} (by simp) rfl _ rfl;obtain⟨s2,h2,q2⟩:=hpre {on:=14,ground:=.data} (by simp) rfl _ rfl;obtain⟨s3,h3,q3⟩:=hpre {on:=19,ground:=.data} (by simp) rfl _ rfl;obtain⟨p1,d1,e1,r1⟩:=q1;obtain⟨p2,d2,e2,r2⟩:=q2;obtain⟨p3,d3,e3,r3⟩:=q3;subst e1 e2 e3;exact Qfq rfl (!f) _ _ _ _ _ _ _ _ _ _ _ _ _ _ _ _ _ _ _ _ _ h0 h1 h2 h3 ⟨.refl _ _,_,rfl,_,_,_,rfl,⟨_,_,rfl,r1⟩,⟨_,_,rfl,r2⟩,⟨_,_,rfl,r3⟩⟩
  | 21,hi,_ =>
   obtain rfl:=Xd hi;intro a1 w6 hE hoth hpre;exact Qfp rfl ⟨.below (Qab _ _),_,rfl,_,rfl,Xa w6 _,hE.size⟩
  | j+22,_,hj=>omega
 case hlast =>
  intro a1 W2 hF k;have h20:∃c1 c2 c3,a1.tmps.getD 31 undef=.agg (.bool (!f)::.slice none 0 0::(c1++c2++c3++[.slice none 0 0])).toArray∧ScsIs W2 (w1.heap.size≤·) c1 pr∧ScsIs W2 (w1.heap.size≤·) c2 ac∧ScsIs W2 (w1.heap.size≤·) c3 re:=hF.facts 20 _ rfl rfl
  have h21:∃blk,a1.tmps.getD 4 undef=.pointer (some ⟨blk,0,none⟩)∧W2.heap[blk]? =some (.cells pZero 62 (0,0))∧w1.heap.size≤blk:=hF.facts 21 _ rfl rfl
  have hE:=hF.ext;obtain⟨fs,hfr,_⟩:=hF.frame;clear hF;obtain⟨s1,s2,s3,hv,⟨p1,d1,rfl,r1⟩,⟨p2,d2,rfl,r2⟩,⟨p3,d3,rfl,r3⟩⟩:=h20;obtain⟨blk,h4,hb,hbl⟩:=h21;obtain⟨W9,hst,hb9,hE9⟩:=st62 W2 blk 62 (!f) none 0 0 none 0 0 pr.kind pr.u.1 pr.u.2 p1 pr.l.length d1 pr.ty ac.kind ac.u.1 ac.u.2 p2 ac.l.length d2 ac.ty re.kind re.u.1 re.u.2 p3 re.l.length d3 re.ty hb;refine Qcu (k:=k) (i:=22) (by kernel_rfl) rfl rfl ?_
  refine Qct 62 (.tmp 4) (.tmp 31) rfl _ h4 _ hv _ hst ?_;refine Qd4 (by kernel_rfl) ?_ k;have B9:Below w.heap.size w W9:=(((Ext.below (S:=fun _=>False) B1).trans hE).trans' hE9 (fun d hd=>.inr (by omega))).toBelow (fun _ h=>h.elim) (Xb _);have hR9:W9.heap[w.heap.size]? =some (.cells pZero 62 (0,0)):=hE9.heap (by omega) (hE.heap id hR1);have hS9:S3 W9 w.heap.size pr ac re p1 p2 p3:=S3.extT (w:=W2) ⟨r1.mono (fun d hd=>by omega),r2.mono (fun d hd=>by omega),r3.mono (fun d hd=>by omega)⟩ hE9 (fun d c fr hd e=>by subst e;exact QcJ hd hb (by decide))
  have h4f:fs 4=.pointer (some ⟨blk,0,none⟩):=by
   subst hfr;rw[show Qbi _=[11,12,13,14,15,16,17,18,19,20,21,22,23,24,25,26,27,28,29,30,31,4]from rfl]at h4;simp (config:={decide:=true}) only[List.mapIdx_toArray,List.mapIdx_cons,List.mapIdx_nil,Nat.zero_add,Nat.reduceAdd,if_true,if_false]at h4;exact h4
  have HQ:Hid (NtRl w (!f) pr ac re p1 p2 p3 d1 d2 d3 blk P.notes (.int .i64 0) W9):=Hi ⟨0,.slice none 0 0,rfl,Nat.zero_le _,hR9,hb9,⟨rfl,.inl ⟨rfl,rfl⟩⟩,hS9,B9⟩;have hbl':w.heap.size<blk:=by omega
  clear hS9 hR9 hb9 hE9 hst r1 r2 r3 hv h4 hb hE hbl;subst hfr;rw[show Qbi _=[11,12,13,14,15,16,17,18,19,20,21,22,23,24,25,26,27,28,29,30,31,4]from rfl];simp (config:={decide:=true}) only[List.mapIdx_toArray,List.mapIdx_cons,List.mapIdx_nil,Nat.zero_add,Nat.reduceAdd,if_true,if_false,Act.put,List.setIfInBounds_toArray,List.set_cons_zero,List.set_cons_succ,h4f];have hT9:=Bk B9 hT;have htT:W9.heap[tb]? =some (.cells #[.bool f,.slice pn P.notes.length cn,.iface T1 x1,.iface T2 x2,.iface T3 x3,.slice pc P.cs.length cc,.string P.fn,.int .i64 P.off,.int .i64 P.ln,.int .i64 P.col] TT (0,0)):=hT9
  have hc1:W9.cell? ⟨tb,1,none⟩=some (.slice pn P.notes.length cn):=Qaa hT9 rfl;clear h4f
  go_upto_region 3 with(fail)
  go_loopw [37] (fun sl wr=>NtRl w (!f) pr ac re p1 p2 p3 d1 d2 d3 blk P.notes sl wr) (fun sl _=>P.notes.length-(intOf sl).toNat)
  case atStart=>exact HQ.out
  case round =>
   clear HQ hc1;obtain⟨i,vN,rfl,hi,hR,hY,hA,hS,hBl⟩:=hrel;have hOK:=HOK.out.notes;by_cases hlt:i<P.notes.length
   ·obtain⟨u,hu⟩:∃a,P.notes[i]? =some a:=⟨P.notes[i],by simp[hlt]⟩
    obtain⟨b,off,cc,fr,rfl,hcb,hc0,hc1⟩:=HN.out i u hu;have hwb:=(hBl.block b (Qad hcb)).trans hcb;have c0:wr.cell? ⟨b,off+i*2,none⟩=some (.string u.1):=Qaa hwb hc0;have c1:wr.cell? ⟨b,off+i*2+1,none⟩=some (.string u.2):=Qaa hwb hc1;have HX:=Hi hu;clear hu hcb hc0 hc1 hwb;have HB:=Hi hBl;clear hBl;obtain⟨pA,cA,rfl,-⟩:=RwU.own hA
    go_upto_region 5 with(fail)
    refine QaB fun w3 hw3=>?_
    have B3:Below wr.heap.size wr w3:=by rw[hw3];exact Qab wr _
    have heb:w3.heap[wr.heap.size]? =some (.cells #[.string u.1,.string u.2] 133 (0,0)):=by rw[hw3];exact Xa _ _
    have hz3:wr.heap.size+1=w3.heap.size:=by rw[hw3];simp
    clear hw3 c0 c1;have hY3:=Bk B3 hY;have k0:w3.cell? ⟨wr.heap.size,0,none⟩=some (.string u.1):=Qaa heb rfl;have k1:w3.cell? ⟨wr.heap.size,1,none⟩=some (.string u.2):=Qaa heb rfl;have k2:w3.cell? ⟨blk,1,none⟩=some (.slice pA i cA):=Qaa hY3 rfl;have B4:Below wr.heap.size wr (w3.alloc (.cells #[.string u.1,.string u.2] 66)):=B3.alloc (by omega) _;have hY4:=Bk B4 hY;have hR4:=Bk B4 hR;have hA4:=Qaj (S:=fun _=>False) hA (.below B4) (fun _ h=>h.elim)
    have hS4:=hS.extT (S:=fun _=>False) (.below B4) (fun _ _ _ _=>id);have hnew:=Xa w3 (.cells #[.string u.1,.string u.2] 66);have HAll:=Hi (Xc hA4 (Xc hY4 (Xc hR4 (Xc hS4 (Xc B4 hnew)))));have hBs:=HB.out.size;clear hA4 hY4 hR4 hS4 hnew B4 hY3 heb hY hR hS hA B3
    go_wp2_with(at_builtin;refine appF sl54 rfl _ _ rfl w.heap.size _ _ _ rfl HAll.out.1 _ [.string u.1,.string u.2] rfl rfl (fun j u hj=>Qaa HAll.out.2.2.2.2.2 (by simpa using hj)) (fun v hv=>by simp at hv;rcases hv with rfl | rfl<;>rfl) (by unfold maxLen;omega) (by omega) (by simp;omega) ?_)
    intro v9 w9 hO9 hg9 hwh;clear hwh;obtain⟨p9,c9,rfl,-⟩:=RwU.own hO9;obtain⟨v9,hv9⟩:∃v9,v9=Value.slice p9 (i+1) c9:=⟨_,rfl⟩
    rw[←hv9]at hO9;obtain⟨hA4,hY4,hR4,hS4,B4,hnew⟩:=HAll.out;have hx9:=QaR hY4 hA4 hg9 (by decide);have hr9:=QaR hR4 hA4 hg9 (by decide);have hs9:=hS4.extT (QaF hA4 hg9) (fun d c fr hd e=>by obtain⟨_,c',hc'⟩:=Qa5 hA4 e;exact QcJ hd hc' (by decide));have hB4:Below w.heap.size w (w3.alloc (.cells #[.string u.1,.string u.2] 66)):=HB.out.trans (B4.mono hBs);have hB9:Below w.heap.size w w9:=(Ext.grow (S:=fun _=>False) (.below hB4) hA4 hg9 (Xb _)).toBelow (fun _ h=>h.elim) (Xb _)
    have hfr:w9.frozen? ⟨blk,1,none⟩=false:=Qae hx9 1;have hc9:w9.cell? ⟨blk,1,none⟩=some (.slice pA i cA):=Qaa hx9 rfl;have hE:Ext (·=blk) w9 (w9.setCell ⟨blk,1,none⟩ v9):=(Ext.refl (·=blk) w9).set (p:=⟨blk,1,none⟩) (.inl rfl) v9;have hset:=Qac (o:=1) hx9 v9;have hsr:=hE.heap (by omega) hr9;have hsO:=Qb3 hO9 hE (fun d hd=>.inr (fun c fr q=>by subst hd;exact QcJ hx9 q (by decide)));have hsS:=hs9.extT hE (fun d c fr hd e=>by subst e;exact QcJ hd hx9 (by decide))
    have hsB:Below w.heap.size w (w9.setCell ⟨blk,1,none⟩ v9):=((Ext.below (S:=fun _=>False) hB9).trans' hE (fun d hd=>.inr (by omega))).toBelow (fun _ h=>h.elim) (Xb _);subst hv9;have hkt:Qav (P.notes.take (i+1))=Qav (P.notes.take i)++[.string u.1,.string u.2]:=by rw[List.take_add_one,HX.out,Option.toList];exact Qbm _ _ _
    have HEND:Hid (NtRl w (!f) pr ac re p1 p2 p3 d1 d2 d3 blk P.notes (.int .i64 ((i:Int)+1)) (w9.setCell ⟨blk,1,none⟩ (.slice p9 (i+1) c9))):=Hi ⟨i+1,_,by go_num,by omega,hsr,hset,by rw[hkt];exact hsO,hsS,hsB⟩;clear hset hsr hsO hsS hsB hE hB9 hB4 hs9 hr9 hA4 hY4 hR4 hS4 B4 hnew hO9 hg9 hkt
    go_wp2_with fail
    go_roundw
    case rel=>exact HEND.out
    case measure=>simp[intOf];omega
   ·obtain rfl:i=P.notes.length:=by omega
    obtain⟨pN,cN,rfl,hrN⟩:=RwU.own hA;rw[List.take_of_length_le (Xb _)]at hrN;clear hA hi hlt HN;have hTr:=Bk hBl hT;have hc5:wr.cell? ⟨tb,5,none⟩=some (.slice pc P.cs.length cc):=Qaa hTr rfl;obtain⟨ys,hys⟩:∃y,P.cs.map (fun c=>(!c.1,toP c.2))=y:=⟨_,rfl⟩
    have HYS:=Hi hys;clear hys;have HYL:Hid (ys.length=P.cs.length):=Hi (by rw[←HYS.out,List.length_map]);have HQ:Hid (CdRl w (!f) pr ac re p1 p2 p3 d1 d2 d3 blk pN cN P.notes ys (.int .i64 0) wr):=Hi ⟨0,.slice none 0 0,[],rfl,Nat.zero_le _,hR,hY,hrN,⟨rfl,.inl ⟨rfl,rfl⟩⟩,.nil,hS,hBl⟩;clear hR hY hrN hS hBl hTr B9
    go_upto_region 8 with(fail)
    go_loopw [57] (fun sl wr=>CdRl w (!f) pr ac re p1 p2 p3 d1 d2 d3 blk pN cN P.notes ys sl wr) (fun sl _=>P.cs.length-(intOf sl).toNat)
    case atStart=>exact HQ.out
    case round =>
     clear HQ hc5;obtain⟨i,vC,cs,rfl,hi,hR,hY,hN,hA,hCn,hS,hBl⟩:=hrel;have hOK:=HOK.out.conds;by_cases hlt:i<P.cs.length
     ·obtain⟨a,ha⟩:∃a,P.cs[i]? =some a:=⟨P.cs[i],by simp[hlt]⟩
      obtain⟨b,off,ccs,fr,T,v,rfl,hcb,hc0,hc1,hnd⟩:=HC.out i a ha;have hokE:=HOK.out.okE a (List.mem_of_getElem? ha);clear hi;have hwb:=(hBl.block b (Qad hcb)).trans hcb;have q0:wr.cell? ⟨b,off+i*2,none⟩=some (.bool a.1):=Qaa hwb hc0;have q1:wr.cell? ⟨b,off+i*2+1,none⟩=some (.iface T v):=Qaa hwb hc1;have hndw:=hnd.keep (Ext.below (S:=fun _=>False) hBl) (fun _ h=>h.elim);have hya:ys[i]? =some (!a.1,toP a.2):=by rw[←HYS.out,List.getElem?_map,ha];rfl
      have HX:=Hi hya;clear hya ha hcb hc0 hc1 hwb hnd;have HB:=Hi hBl;clear hBl;have HND:=Hi (Xc hokE hndw);clear hokE hndw;obtain⟨pA,cA,rfl,-⟩:=RwU.own hA;have HR:=Hi hR;clear hR;have HY:=Hi hY;clear hY;have HA:=Hi hA;clear hA;have HN':=Hi hN;clear hN;have HS:=Hi hS;clear hS;have HCn:=Hi hCn;clear hCn
      go_upto_region 10 with(fail)
      refine QaB fun w3 hw3=>?_
      have B3:Below wr.heap.size wr w3:=by rw[hw3];exact Qab wr _
      have heb:w3.heap[wr.heap.size]? =some (.cells #[.bool a.1,.iface T v] 138 (0,0)):=by rw[hw3];exact Xa _ _
      have hz3:wr.heap.size+1=w3.heap.size:=by rw[hw3];simp
      clear hw3 q0 q1;have j1:w3.cell? ⟨wr.heap.size,1,none⟩=some (.iface T v):=Qaa heb rfl
      go_wp2_with fail
      refine(expr_px HND.out.1 _ _ _ (HND.out.2.keep (Ext.below (S:=fun _=>False) B3) (fun _ h=>h.elim))).mono ?_;rintro e w4⟨B4,ds,hpx,rfl⟩;clear j1;obtain⟨y,hy⟩:∃y,toP a.2=y:=⟨_,rfl⟩
      rw[hy]at hpx;have HYY:=Hi hy;clear hy;cases hpx with
      | mk op' s' v' keys' pieces' l' pk pp pl ck cp cl cs' hk hp hl hch =>
      have hpx:PxIs w4 (w3.heap.size≤·) _ (.mk op' s' v' keys' pieces' l'):=.mk op' s' v' keys' pieces' l' pk pp pl ck cp cl cs' hk hp hl hch;obtain⟨kd,nn,vs',vt⟩:=v';simp only at hpx;have HPX:=Hi hpx;clear hpx hk hp hl hch
      go_upto_region 11 with(fail)
      refine QaB fun w5 hw5=>?_
      have hz5:w4.heap.size+1=w5.heap.size:=by rw[hw5];simp
      have h5:w5.heap[w4.heap.size]? =some (.cells (xCells op' s' kd nn vs' vt (.slice pk keys'.length ck) (.slice pp pieces'.length cp) (.slice pl l'.length cl)) 33 (0,0)):=by rw[hw5];exact Xa _ _
      have B45:Below w4.heap.size w4 w5:=by rw[hw5];exact Qab _ _
      clear hw5;have hs34:=B4.size;have B5:Below wr.heap.size wr w5:=(B3.trans (B4.mono (by omega))).trans (B45.mono (by omega));have hpx5:=HPX.out.after B45;have heb5:=(B45.block _ (Qad (Bk B4 heb))).trans (Bk B4 heb);have hY5:=(B5.block _ (Qad HY.out)).trans HY.out;clear heb B3 B4 B45;obtain⟨k0,k1,k2,k3,k4,k5,k6,k7,k8,k9,k10⟩:=Cl11 h5 rfl rfl rfl rfl rfl rfl rfl rfl rfl rfl rfl;have k11:w5.cell? ⟨wr.heap.size,0,none⟩=some (.bool a.1):=Qaa heb5 rfl
      have k17:w5.cell? ⟨blk,17,none⟩=some (.slice pA i cA):=Qaa hY5 rfl;have B6:Below wr.heap.size wr (w5.alloc (.cells #[.bool (!a.1),.int .i64 op',.string s',.int .i64 kd,.int .i64 nn,.string vs',.string vt,.slice none 0 0,.slice none 0 0,.slice pk keys'.length ck,.slice pp pieces'.length cp,.slice pl l'.length cl] 80)):=B5.alloc (by omega) _;have hA6:=Qaj (S:=fun _=>False) HA.out (.below B6) (fun _ h=>h.elim)
      have hY6:=(B6.block _ (Qad HY.out)).trans HY.out;have hR6:=(B6.block _ (Qad HR.out)).trans HR.out;have hS6:=HS.out.extT (S:=fun _=>False) (.below B6) (fun _ _ _ _=>id);have hN6:=HN'.out.extT (S:=fun _=>False) (.below B6) (fun _ _ _ _=>id);have hC6:=HCn.out.extT (S:=fun _=>False) (.below B6) (fun _ _ _ _=>id) (fun _ _ _ _=>id);have hP6:=hpx5.extT (S:=fun _=>False) (.below (Qab w5 (.cells #[.bool (!a.1),.int .i64 op',.string s',.int .i64 kd,.int .i64 nn,.string vs',.string vt,.slice none 0 0,.slice none 0 0,.slice pk keys'.length ck,.slice pp pieces'.length cp,.slice pl l'.length cl] 80))) (fun _ _ _ _=>id) (fun _ _ _ _=>id)
      have hnew:=Xa w5 (.cells #[.bool (!a.1),.int .i64 op',.string s',.int .i64 kd,.int .i64 nn,.string vs',.string vt,.slice none 0 0,.slice none 0 0,.slice pk keys'.length ck,.slice pp pieces'.length cp,.slice pl l'.length cl] 80);have HAll:=Hi (Xc hA6 (Xc hY6 (Xc hR6 (Xc hS6 (Xc hN6 (Xc hC6 (Xc hP6 (Xc B6 hnew))))))));have hBs:=HB.out.size;clear hA6 hY6 hR6 hS6 hN6 hC6 hP6 hnew B6 hY5 heb5 h5 hpx5 B5
      go_wp2_with(at_builtin;refine appF sl60 rfl _ _ rfl w.heap.size _ _ _ rfl HAll.out.1 _ [.bool (!a.1),.int .i64 op',.string s',.int .i64 kd,.int .i64 nn,.string vs',.string vt,.slice none 0 0,.slice none 0 0,.slice pk keys'.length ck,.slice pp pieces'.length cp,.slice pl l'.length cl] rfl rfl (fun j u hj=>Qaa HAll.out.2.2.2.2.2.2.2.2 (by simpa using hj)) (by intro v hv;rcases List.mem_cons.1 hv with rfl | hv;rfl;exact Qh4 HPX.out v hv) (by unfold maxLen;omega) (by omega) (by simp;omega) ?_)
      intro v9 w9 hO9 hg9 hwh;clear hwh;obtain⟨p9,c9,rfl,-⟩:=RwU.own hO9;obtain⟨v9,hv9⟩:∃v9,v9=Value.slice p9 (i+1) c9:=⟨_,rfl⟩
      rw[←hv9]at hO9;obtain⟨hA6,hY6,hR6,hS6,hN6,hC6,hP6,B6,hnew⟩:=HAll.out;have hx9:=QaR hY6 hA6 hg9 (by decide);have hr9:=QaR hR6 hA6 hg9 (by decide);have hT80:∀{d:Nat}{c:Array Value}{T:TypeId}{fr:Nat×Nat},(w5.alloc (.cells #[.bool (!a.1),.int .i64 op',.string s',.int .i64 kd,.int .i64 nn,.string vs',.string vt,.slice none 0 0,.slice none 0 0,.slice pk keys'.length ck,.slice pp pieces'.length cp,.slice pl l'.length cl] 80)).heap[d]? =some (.cells c T fr)→T≠80→¬((Value.slice pA i cA).ownBlock=some d):=fun hd hne e=>by obtain⟨_,c',hc'⟩:=Qa5 hA6 e;exact QcJ hd hc' hne
      have hs9:=hS6.extT (QaF hA6 hg9) (fun d c fr hd=>hT80 hd (by decide));have hn9:=hN6.extT (QaF hA6 hg9) (fun d c fr hd=>hT80 hd (by decide));have hcn9:=hC6.extT (QaF hA6 hg9) (fun d c fr hd=>hT80 hd (by decide)) (fun d c fr hd=>hT80 hd (by decide));have hp9:=hP6.extT (QaF hA6 hg9) (fun d c fr hd=>hT80 hd (by decide)) (fun d c fr hd=>hT80 hd (by decide));have hB6:Below w.heap.size w (w5.alloc (.cells #[.bool (!a.1),.int .i64 op',.string s',.int .i64 kd,.int .i64 nn,.string vs',.string vt,.slice none 0 0,.slice none 0 0,.slice pk keys'.length ck,.slice pp pieces'.length cp,.slice pl l'.length cl] 80)):=HB.out.trans (B6.mono hBs)
      have hB9:Below w.heap.size w w9:=(Ext.grow (S:=fun _=>False) (.below hB6) hA6 hg9 (Xb _)).toBelow (fun _ h=>h.elim) (Xb _);have hfr:w9.frozen? ⟨blk,17,none⟩=false:=Qae hx9 17;have hc9:w9.cell? ⟨blk,17,none⟩=some (.slice pA i cA):=Qaa hx9 rfl;have hE:Ext (·=blk) w9 (w9.setCell ⟨blk,17,none⟩ v9):=(Ext.refl (·=blk) w9).set (p:=⟨blk,17,none⟩) (.inl rfl) v9;have hT62:∀{d:Nat}{c:Array Value}{T:TypeId}{fr:Nat×Nat},w9.heap[d]? =some (.cells c T fr)→T≠62→¬(d=blk):=fun hd hne e=>by subst e;exact QcJ hd hx9 hne
      have hset:=Qac (o:=17) hx9 v9;have hsr:=hE.heap (by omega) hr9;have hsO:=Qb3 hO9 hE (fun d hd=>.inr (fun c fr q=>hT62 q (by decide) hd));have hsS:=hs9.extT hE (fun d c fr hd=>hT62 hd (by decide));have hsN:=hn9.extT hE (fun d c fr hd=>hT62 hd (by decide));have hsC:=(hcn9.extT hE (fun d c fr hd=>hT62 hd (by decide)) (fun d c fr hd=>hT62 hd (by decide))).snoc (b:=!a.1) ((hp9.extT hE (fun d c fr hd=>hT62 hd (by decide)) (fun d c fr hd=>hT62 hd (by decide))).mono (U':=(w.heap.size≤·)) (fun d hd=>by omega))
      have hsB:Below w.heap.size w (w9.setCell ⟨blk,17,none⟩ v9):=((Ext.below (S:=fun _=>False) hB9).trans' hE (fun d hd=>.inr (by omega))).toBelow (fun _ h=>h.elim) (Xb _);subst hv9;have hyt:ys.take (i+1)=ys.take i++[(!a.1,.mk op' s' ⟨kd,nn,vs',vt⟩ keys' pieces' l')]:=by rw[List.take_add_one,HX.out,HYY.out];rfl
      have HEND:Hid (CdRl w (!f) pr ac re p1 p2 p3 d1 d2 d3 blk pN cN P.notes ys (.int .i64 ((i:Int)+1)) (w9.setCell ⟨blk,17,none⟩ (.slice p9 (i+1) c9))):=Hi ⟨i+1,_,_,by go_num,by have:=HYL.out;omega,hsr,hset,hsN,hsO,by rw[hyt];exact hsC,hsS,hsB⟩;clear hset hsr hsO hsS hsB hsN hsC hE hB9 hB6 hs9 hr9 hn9 hcn9 hp9 hA6 hY6 hR6 hS6 hN6 hC6 hP6 B6 hnew hO9 hg9 hyt hT80 hT62
      go_wp2_with fail
      go_roundw
      case rel=>exact HEND.out
      case measure=>simp[intOf];omega
     ·obtain rfl:i=ys.length:=by have:=HYL.out;omega
      obtain⟨pA,cA,rfl,hrC⟩:=RwU.own hA;rw[List.take_of_length_le (Xb _)]at hCn;have HRO:=Hi (Xc hrC (Xc hN (Xc hCn hS)));clear hrC hN hCn hS hA;have HB:=Hi hBl;clear hBl;have HR:=Hi hR;clear hR;have HY:=Hi hY;clear hY
      go_upto_region 15 with(fail)
      obtain⟨w9,hw9,h9,hE⟩:=st62 wr w.heap.size 62 (!f) pN P.notes.length cN pA ys.length cA pr.kind pr.u.1 pr.u.2 p1 pr.l.length d1 pr.ty ac.kind ac.u.1 ac.u.2 p2 ac.l.length d2 ac.ty re.kind re.u.1 re.u.2 p3 re.l.length d3 re.ty HR.out;refine wp_region_list ?_;refine wpL_load rfl 62 (.tmp 4) rfl _ rfl _ (ld62 _ _ _ _ _ _ _ _ _ _ _ _ _ _ _ _ _ _ _ _ _ _ _ _ _ _ _ _ _ _ HY.out) ?_;refine QdA rfl 62 (.tmp 2) (.tmp 81) rfl _ rfl _ rfl _ hw9 ?_
      clear hw9
      go_wp2_with fail
      refine ret_pol _ 2 3 (by kernel_rfl) rfl rfl rfl h9 ?_;have hT62:∀{d:Nat}{c:Array Value}{T:TypeId}{fr:Nat×Nat},wr.heap[d]? =some (.cells c T fr)→T≠62→¬(d=w.heap.size):=fun hd hne e=>by subst e;exact QcJ hd HR.out hne
      obtain⟨hrC,hN,hCn,hS⟩:=HRO.out;refine⟨((Ext.below (S:=fun _=>False) HB.out).trans' hE (fun d hd=>by omega)).toBelow (fun _ h=>h.elim) (Xb _),_,?_,rfl⟩;have h1:=hrC.extT hE (fun d c fr hd=>hT62 hd (by decide));have h2:=hN.extT hE (fun d c fr hd=>hT62 hd (by decide));have h3:=hCn.extT hE (fun d c fr hd=>hT62 hd (by decide)) (fun d c fr hd=>hT62 hd (by decide));have h4:=hS.extT hE (fun d c fr hd=>hT62 hd (by decide))
      have hend:PpIs w9 (w.heap.size≤·) [(.bool (!f)),(.slice pN P.notes.length cN),(.int .i64 pr.kind),(.string pr.u.1),(.string pr.u.2),(.slice p1 pr.l.length d1),(.string pr.ty),(.int .i64 ac.kind),(.string ac.u.1),(.string ac.u.2),(.slice p2 ac.l.length d2),(.string ac.ty),(.int .i64 re.kind),(.string re.u.1),(.string re.u.2),(.slice p3 re.l.length d3),(.string re.ty),(.slice pA ys.length cA)] ⟨!f,P.notes,pr,ac,re,ys⟩:=⟨pN,cN,_,_,_,pA,cA,cs,rfl,h2,⟨p1,d1,rfl,h4.1⟩,⟨p2,d2,rfl,h4.2.1⟩,⟨p3,d3,rfl,h4.2.2⟩,h1,h3⟩
      have hpol:Qb1 P=⟨!f,P.notes,pr,ac,re,ys⟩:=by rw[Qb1,hf,hprE,hacE,hreE,HYS.out]
      rw[hpol];exact hend
end Go.Proofs.Pg
