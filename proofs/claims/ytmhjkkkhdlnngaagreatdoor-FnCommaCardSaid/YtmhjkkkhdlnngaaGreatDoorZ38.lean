/- FnComma: a last comma changes nothing; for every world. Part 38. -/
import Derived.Test.YtmhjkkkhdlnngaaGreatDoorZ37
set_option linter.all false
set_option maxRecDepth 100000
set_option maxHeartbeats 40000000
namespace Go.Proofs.Pg
open Go.RowKit
attribute [local go_sem] Oper.semAt_some
abbrev pZero:Array Value:=#[.bool false,.slice none 0 0,.int .i64 0,.string ⟨#[]⟩,.string ⟨#[]⟩,.slice none 0 0,.string ⟨#[]⟩,.int .i64 0,.string ⟨#[]⟩,.string ⟨#[]⟩,.slice none 0 0,.string ⟨#[]⟩,.int .i64 0,.string ⟨#[]⟩,.string ⟨#[]⟩,.slice none 0 0,.string ⟨#[]⟩,.slice none 0 0]
theorem ext18{w:World}{b:Nat}(v0 v1 v2 v3 v4 v5 v6 v7 v8 v9 v10 v11 v12 v13 v14 v15 v16 v17:Value):Ext (·=b) w ((((((((((((((((((w.setCell ⟨b,0,none⟩ v0).setCell ⟨b,1,none⟩ v1).setCell ⟨b,2,none⟩ v2).setCell ⟨b,3,none⟩ v3).setCell ⟨b,4,none⟩ v4).setCell ⟨b,5,none⟩ v5).setCell ⟨b,6,none⟩ v6).setCell ⟨b,7,none⟩ v7).setCell ⟨b,8,none⟩ v8).setCell ⟨b,9,none⟩ v9).setCell ⟨b,10,none⟩ v10).setCell ⟨b,11,none⟩ v11).setCell ⟨b,12,none⟩ v12).setCell ⟨b,13,none⟩ v13).setCell ⟨b,14,none⟩ v14).setCell ⟨b,15,none⟩ v15).setCell ⟨b,16,none⟩ v16).setCell ⟨b,17,none⟩ v17) :=
 ((((((((((((((((((Ext.refl (·=b) w).set (p:=⟨b,0,none⟩) (.inl rfl) v0).set (p:=⟨b,1,none⟩) (.inl rfl) v1).set (p:=⟨b,2,none⟩) (.inl rfl) v2).set (p:=⟨b,3,none⟩) (.inl rfl) v3).set (p:=⟨b,4,none⟩) (.inl rfl) v4).set (p:=⟨b,5,none⟩) (.inl rfl) v5).set (p:=⟨b,6,none⟩) (.inl rfl) v6).set (p:=⟨b,7,none⟩) (.inl rfl) v7).set (p:=⟨b,8,none⟩) (.inl rfl) v8).set (p:=⟨b,9,none⟩) (.inl rfl) v9).set (p:=⟨b,10,none⟩) (.inl rfl) v10).set (p:=⟨b,11,none⟩) (.inl rfl) v11).set (p:=⟨b,12,none⟩) (.inl rfl) v12).set (p:=⟨b,13,none⟩) (.inl rfl) v13).set (p:=⟨b,14,none⟩) (.inl rfl) v14).set (p:=⟨b,15,none⟩) (.inl rfl) v15).set (p:=⟨b,16,none⟩) (.inl rfl) v16).set (p:=⟨b,17,none⟩) (.inl rfl) v17
theorem box18{w:World}{b:Nat}{c:Array Value}{e:TypeId}(h:w.heap[b]? =some (.cells c e (0,0)))(hc:c.size=18)(v0 v1 v2 v3 v4 v5 v6 v7 v8 v9 v10 v11 v12 v13 v14 v15 v16 v17:Value) :
  ∃w',((((((((((((((((((w.setCell ⟨b,0,none⟩ v0).setCell ⟨b,1,none⟩ v1).setCell ⟨b,2,none⟩ v2).setCell ⟨b,3,none⟩ v3).setCell ⟨b,4,none⟩ v4).setCell ⟨b,5,none⟩ v5).setCell ⟨b,6,none⟩ v6).setCell ⟨b,7,none⟩ v7).setCell ⟨b,8,none⟩ v8).setCell ⟨b,9,none⟩ v9).setCell ⟨b,10,none⟩ v10).setCell ⟨b,11,none⟩ v11).setCell ⟨b,12,none⟩ v12).setCell ⟨b,13,none⟩ v13).setCell ⟨b,14,none⟩ v14).setCell ⟨b,15,none⟩ v15).setCell ⟨b,16,none⟩ v16).setCell ⟨b,17,none⟩ v17)=w'∧w'.heap[b]? =some (.cells #[v0,v1,v2,v3,v4,v5,v6,v7,v8,v9,v10,v11,v12,v13,v14,v15,v16,v17] e (0,0))∧Ext (·=b) w w':=by
 refine⟨_,rfl,?_,ext18 v0 v1 v2 v3 v4 v5 v6 v7 v8 v9 v10 v11 v12 v13 v14 v15 v16 v17⟩;obtain⟨l⟩:=c
 match l,hc with
 | [a0,a1,a2,a3,a4,a5,a6,a7,a8,a9,a10,a11,a12,a13,a14,a15,a16,a17],_ =>
  obtain⟨w0,hw0⟩:∃x,w.setCell ⟨b,0,none⟩ v0=x:=⟨_,rfl⟩
  have s0:w0.heap[b]? =some (.cells #[v0,a1,a2,a3,a4,a5,a6,a7,a8,a9,a10,a11,a12,a13,a14,a15,a16,a17] e (0,0)):=hw0▸Qac (o:=0) h v0;obtain⟨w1,hw1⟩:∃x,w0.setCell ⟨b,1,none⟩ v1=x:=⟨_,rfl⟩
  have s1:w1.heap[b]? =some (.cells #[v0,v1,a2,a3,a4,a5,a6,a7,a8,a9,a10,a11,a12,a13,a14,a15,a16,a17] e (0,0)):=hw1▸Qac (o:=1) s0 v1;obtain⟨w2,hw2⟩:∃x,w1.setCell ⟨b,2,none⟩ v2=x:=⟨_,rfl⟩
  have s2:w2.heap[b]? =some (.cells #[v0,v1,v2,a3,a4,a5,a6,a7,a8,a9,a10,a11,a12,a13,a14,a15,a16,a17] e (0,0)):=hw2▸Qac (o:=2) s1 v2;obtain⟨w3,hw3⟩:∃x,w2.setCell ⟨b,3,none⟩ v3=x:=⟨_,rfl⟩
  have s3:w3.heap[b]? =some (.cells #[v0,v1,v2,v3,a4,a5,a6,a7,a8,a9,a10,a11,a12,a13,a14,a15,a16,a17] e (0,0)):=hw3▸Qac (o:=3) s2 v3;obtain⟨w4,hw4⟩:∃x,w3.setCell ⟨b,4,none⟩ v4=x:=⟨_,rfl⟩
  have s4:w4.heap[b]? =some (.cells #[v0,v1,v2,v3,v4,a5,a6,a7,a8,a9,a10,a11,a12,a13,a14,a15,a16,a17] e (0,0)):=hw4▸Qac (o:=4) s3 v4;obtain⟨w5,hw5⟩:∃x,w4.setCell ⟨b,5,none⟩ v5=x:=⟨_,rfl⟩
  have s5:w5.heap[b]? =some (.cells #[v0,v1,v2,v3,v4,v5,a6,a7,a8,a9,a10,a11,a12,a13,a14,a15,a16,a17] e (0,0)):=hw5▸Qac (o:=5) s4 v5;obtain⟨w6,hw6⟩:∃x,w5.setCell ⟨b,6,none⟩ v6=x:=⟨_,rfl⟩
  have s6:w6.heap[b]? =some (.cells #[v0,v1,v2,v3,v4,v5,v6,a7,a8,a9,a10,a11,a12,a13,a14,a15,a16,a17] e (0,0)):=hw6▸Qac (o:=6) s5 v6;obtain⟨w7,hw7⟩:∃x,w6.setCell ⟨b,7,none⟩ v7=x:=⟨_,rfl⟩
  have s7:w7.heap[b]? =some (.cells #[v0,v1,v2,v3,v4,v5,v6,v7,a8,a9,a10,a11,a12,a13,a14,a15,a16,a17] e (0,0)):=hw7▸Qac (o:=7) s6 v7;obtain⟨w8,hw8⟩:∃x,w7.setCell ⟨b,8,none⟩ v8=x:=⟨_,rfl⟩
  have s8:w8.heap[b]? =some (.cells #[v0,v1,v2,v3,v4,v5,v6,v7,v8,a9,a10,a11,a12,a13,a14,a15,a16,a17] e (0,0)):=hw8▸Qac (o:=8) s7 v8;obtain⟨w9,hw9⟩:∃x,w8.setCell ⟨b,9,none⟩ v9=x:=⟨_,rfl⟩
  have s9:w9.heap[b]? =some (.cells #[v0,v1,v2,v3,v4,v5,v6,v7,v8,v9,a10,a11,a12,a13,a14,a15,a16,a17] e (0,0)):=hw9▸Qac (o:=9) s8 v9;obtain⟨w10,hw10⟩:∃x,w9.setCell ⟨b,10,none⟩ v10=x:=⟨_,rfl⟩
  have s10:w10.heap[b]? =some (.cells #[v0,v1,v2,v3,v4,v5,v6,v7,v8,v9,v10,a11,a12,a13,a14,a15,a16,a17] e (0,0)):=hw10▸Qac (o:=10) s9 v10;obtain⟨w11,hw11⟩:∃x,w10.setCell ⟨b,11,none⟩ v11=x:=⟨_,rfl⟩
  have s11:w11.heap[b]? =some (.cells #[v0,v1,v2,v3,v4,v5,v6,v7,v8,v9,v10,v11,a12,a13,a14,a15,a16,a17] e (0,0)):=hw11▸Qac (o:=11) s10 v11;obtain⟨w12,hw12⟩:∃x,w11.setCell ⟨b,12,none⟩ v12=x:=⟨_,rfl⟩
  have s12:w12.heap[b]? =some (.cells #[v0,v1,v2,v3,v4,v5,v6,v7,v8,v9,v10,v11,v12,a13,a14,a15,a16,a17] e (0,0)):=hw12▸Qac (o:=12) s11 v12;obtain⟨w13,hw13⟩:∃x,w12.setCell ⟨b,13,none⟩ v13=x:=⟨_,rfl⟩
  have s13:w13.heap[b]? =some (.cells #[v0,v1,v2,v3,v4,v5,v6,v7,v8,v9,v10,v11,v12,v13,a14,a15,a16,a17] e (0,0)):=hw13▸Qac (o:=13) s12 v13;obtain⟨w14,hw14⟩:∃x,w13.setCell ⟨b,14,none⟩ v14=x:=⟨_,rfl⟩
  have s14:w14.heap[b]? =some (.cells #[v0,v1,v2,v3,v4,v5,v6,v7,v8,v9,v10,v11,v12,v13,v14,a15,a16,a17] e (0,0)):=hw14▸Qac (o:=14) s13 v14;obtain⟨w15,hw15⟩:∃x,w14.setCell ⟨b,15,none⟩ v15=x:=⟨_,rfl⟩
  have s15:w15.heap[b]? =some (.cells #[v0,v1,v2,v3,v4,v5,v6,v7,v8,v9,v10,v11,v12,v13,v14,v15,a16,a17] e (0,0)):=hw15▸Qac (o:=15) s14 v15;obtain⟨w16,hw16⟩:∃x,w15.setCell ⟨b,16,none⟩ v16=x:=⟨_,rfl⟩
  have s16:w16.heap[b]? =some (.cells #[v0,v1,v2,v3,v4,v5,v6,v7,v8,v9,v10,v11,v12,v13,v14,v15,v16,a17] e (0,0)):=hw16▸Qac (o:=16) s15 v16;obtain⟨w17,hw17⟩:∃x,w16.setCell ⟨b,17,none⟩ v17=x:=⟨_,rfl⟩
  have s17:w17.heap[b]? =some (.cells #[v0,v1,v2,v3,v4,v5,v6,v7,v8,v9,v10,v11,v12,v13,v14,v15,v16,v17] e (0,0)):=hw17▸Qac (o:=17) s16 v17;rw[hw0,hw1,hw2,hw3,hw4,hw5,hw6,hw7,hw8,hw9,hw10,hw11,hw12,hw13,hw14,hw15,hw16,hw17];exact s17
theorem zero18{w:World}{R:Nat}{T:TypeId}(h:w.heap[R]? =some (.cells pZero T (0,0))):w.cell? ⟨R,0,none⟩=some (.bool false)∧w.cell? ⟨R,1,none⟩=some (.slice none 0 0)∧w.cell? ⟨R,2,none⟩=some (.int .i64 0)∧w.cell? ⟨R,3,none⟩=some (.string ⟨#[]⟩)∧w.cell? ⟨R,4,none⟩=some (.string ⟨#[]⟩)∧w.cell? ⟨R,5,none⟩=some (.slice none 0 0)∧w.cell? ⟨R,6,none⟩=some (.string ⟨#[]⟩)∧w.cell? ⟨R,7,none⟩=some (.int .i64 0)∧w.cell? ⟨R,8,none⟩=some (.string ⟨#[]⟩)∧w.cell? ⟨R,9,none⟩=some (.string ⟨#[]⟩)∧w.cell? ⟨R,10,none⟩=some (.slice none 0 0)∧w.cell? ⟨R,11,none⟩=some (.string ⟨#[]⟩)∧w.cell? ⟨R,12,none⟩=some (.int .i64 0)∧w.cell? ⟨R,13,none⟩=some (.string ⟨#[]⟩)∧w.cell? ⟨R,14,none⟩=some (.string ⟨#[]⟩)∧w.cell? ⟨R,15,none⟩=some (.slice none 0 0)∧w.cell? ⟨R,16,none⟩=some (.string ⟨#[]⟩)∧w.cell? ⟨R,17,none⟩=some (.slice none 0 0)∧w.frozen? ⟨R,0,none⟩=false∧w.frozen? ⟨R,1,none⟩=false∧w.frozen? ⟨R,2,none⟩=false∧w.frozen? ⟨R,3,none⟩=false∧w.frozen? ⟨R,4,none⟩=false∧w.frozen? ⟨R,5,none⟩=false∧w.frozen? ⟨R,6,none⟩=false∧w.frozen? ⟨R,7,none⟩=false∧w.frozen? ⟨R,8,none⟩=false∧w.frozen? ⟨R,9,none⟩=false∧w.frozen? ⟨R,10,none⟩=false∧w.frozen? ⟨R,11,none⟩=false∧w.frozen? ⟨R,12,none⟩=false∧w.frozen? ⟨R,13,none⟩=false∧w.frozen? ⟨R,14,none⟩=false∧w.frozen? ⟨R,15,none⟩=false∧w.frozen? ⟨R,16,none⟩=false∧w.frozen? ⟨R,17,none⟩=false :=
 ⟨Qaa h rfl,Qaa h rfl,Qaa h rfl,Qaa h rfl,Qaa h rfl,Qaa h rfl,Qaa h rfl,Qaa h rfl,Qaa h rfl,Qaa h rfl,Qaa h rfl,Qaa h rfl,Qaa h rfl,Qaa h rfl,Qaa h rfl,Qaa h rfl,Qaa h rfl,Qaa h rfl,Qae h 0,Qae h 1,Qae h 2,Qae h 3,Qae h 4,Qae h 5,Qae h 6,Qae h 7,Qae h 8,Qae h 9,Qae h 10,Qae h 11,Qae h 12,Qae h 13,Qae h 14,Qae h 15,Qae h 16,Qae h 17⟩
theorem load18{P:Program}{t:TypeId}(b o:Nat)(w:World)(v0 v1 v2 v3 v4 v5 v6 v7 v8 v9 v10 v11 v12 v13 v14 v15 v16 v17:Value)(ha:(isAgg t).run P w=.ok true w)(hs:(sizeOf t).run P w=.ok 18 w)(h0:w.cell? ⟨b,o,none⟩=some v0)(h1:w.cell? ⟨b,o+1,none⟩=some v1)(h2:w.cell? ⟨b,o+2,none⟩=some v2)(h3:w.cell? ⟨b,o+3,none⟩=some v3)(h4:w.cell? ⟨b,o+4,none⟩=some v4)(h5:w.cell? ⟨b,o+5,none⟩=some v5)(h6:w.cell? ⟨b,o+6,none⟩=some v6)(h7:w.cell? ⟨b,o+7,none⟩=some v7)(h8:w.cell? ⟨b,o+8,none⟩=some v8)(h9:w.cell? ⟨b,o+9,none⟩=some v9)(h10:w.cell? ⟨b,o+10,none⟩=some v10)(h11:w.cell? ⟨b,o+11,none⟩=some v11)(h12:w.cell? ⟨b,o+12,none⟩=some v12)(h13:w.cell? ⟨b,o+13,none⟩=some v13)(h14:w.cell? ⟨b,o+14,none⟩=some v14)(h15:w.cell? ⟨b,o+15,none⟩=some v15)(h16:w.cell? ⟨b,o+16,none⟩=some v16)(h17:w.cell? ⟨b,o+17,none⟩=some v17) :
  (loadVar t ⟨b,o,none⟩).run P w=.ok (.agg #[v0,v1,v2,v3,v4,v5,v6,v7,v8,v9,v10,v11,v12,v13,v14,v15,v16,v17]) w:=by
 simp only[loadVar,Sem.run_bind,ha,hs,Result.andThen_ok,Sem.run_pure,if_true];simp[loadCells,go_sem,h0,h1,h2,h3,h4,h5,h6,h7,h8,h9,h10,h11,h12,h13,h14,h15,h16,h17]
theorem Qfo{W:World}{fn:Func}{R:Nat}{v0 v1 v2 v3 v4 v5 v6 v7 v8 v9 v10 v11 v12 v13 v14 v15 v16 v17 ok:Value}{Q:Ending→World→Prop}(a:Act)(s s2:Nat)(hf:fn.results=#[.cell s 62,.tmp s2])(ha:a.tmps.getD s undef=.pointer (some ⟨R,0,none⟩))(he:a.tmps.getD s2 undef=ok)(had:a.defers=[])
  (r:W.heap[R]? =some (.cells #[v0,v1,v2,v3,v4,v5,v6,v7,v8,v9,v10,v11,v12,v13,v14,v15,v16,v17] 62 (0,0)))(h:Q (.returned (.tuple #[.agg #[v0,v1,v2,v3,v4,v5,v6,v7,v8,v9,v10,v11,v12,v13,v14,v15,v16,v17],ok])) W):bodyPost Tryz.prog fn Q Exit.ret a W:=by
 refine bodyPost_ret (QaH (a:=s) (t:=62) hf _ ⟨R,0,none⟩ ha _ _ (load18 _ _ _ _ _ _ _ _ _ _ _ _ _ _ _ _ _ _ _ _ _ (by kernel_rfl) (by kernel_rfl) (Qaa (o:=0) r rfl) (Qaa (o:=1) r rfl) (Qaa (o:=2) r rfl) (Qaa (o:=3) r rfl) (Qaa (o:=4) r rfl) (Qaa (o:=5) r rfl) (Qaa (o:=6) r rfl) (Qaa (o:=7) r rfl) (Qaa (o:=8) r rfl) (Qaa (o:=9) r rfl) (Qaa (o:=10) r rfl) (Qaa (o:=11) r rfl) (Qaa (o:=12) r rfl) (Qaa (o:=13) r rfl) (Qaa (o:=14) r rfl) (Qaa (o:=15) r rfl) (Qaa (o:=16) r rfl) (Qaa (o:=17) r rfl))) had ?_
 rw[he];exact h
theorem QbL{P:Program}{o:Oper}{a:Act}{w:World}{K:Act→World→Prop}{Q:Exit→Act→World→Prop}(x:Operand)(ho:o.op=.nilCheck x)(p:Addr)(hx:a.eval x=.pointer (some p))(h:K (a.put o.dst (.pointer (some p))) w):o.wp P a w K Q:=by
 unfold Oper.wp;simp only[execOp,ho,hx,Sem.run_pure,Oper.upon];exact h
theorem QcI{P:Program}{o:Oper}{a:Act}{w:World}{K:Act→World→Prop}{Q:Exit→Act→World→Prop}(op:BinOp)(t t2:TypeId)(x y:Operand)(ho:o.op=.binOp op t x y t2)(vx vy:Value)(hx:a.eval x=vx)(hy:a.eval y=vy)(v:Value)(hr:(do eqGuard op t x y vx vy;binOp op t vx vy).run P w=.ok v w)(h:K (a.put o.dst v) w):o.wp P a w K Q:=by
 unfold Oper.wp;simp only[execOp,ho,hx,hy,Sem.run_bind,hr,Result.andThen_ok,Sem.run_pure,Oper.upon];exact h
theorem Qgo(w:World)(b:Nat):(Instr.fieldAt 128 (.pointer (some ⟨b,0,none⟩)) 0).run Tryz.prog w=.ok (.pointer (some ⟨b,0,none⟩)) w:=by kernel_rfl
theorem Qgp(w:World)(b:Nat):(Instr.fieldAt 128 (.pointer (some ⟨b,0,none⟩)) 2).run Tryz.prog w=.ok (.pointer (some ⟨b,2,none⟩)) w:=by kernel_rfl
theorem Qgq(w:World)(b:Nat):(Instr.fieldAt 128 (.pointer (some ⟨b,0,none⟩)) 3).run Tryz.prog w=.ok (.pointer (some ⟨b,3,none⟩)) w:=by kernel_rfl
theorem Qgr(w:World)(b:Nat):(Instr.fieldAt 128 (.pointer (some ⟨b,0,none⟩)) 4).run Tryz.prog w=.ok (.pointer (some ⟨b,4,none⟩)) w:=by kernel_rfl
theorem ld90(w:World)(b o:Nat)(x:Bool)(h:w.cell? ⟨b,o,none⟩=some (.bool x)):(Instr.loadAt 90 (.pointer (some ⟨b,o,none⟩))).run Tryz.prog w=.ok (.bool x) w:=by go_simp
theorem ld93(w:World)(b o:Nat)(T:TypeId)(x:Value)(h:w.cell? ⟨b,o,none⟩=some (.iface T x)):(Instr.loadAt 93 (.pointer (some ⟨b,o,none⟩))).run Tryz.prog w=.ok (.iface T x) w:=by go_simp
theorem ld95(w:World)(b o:Nat)(T:TypeId)(x:Value)(h:w.cell? ⟨b,o,none⟩=some (.iface T x)):(Instr.loadAt 95 (.pointer (some ⟨b,o,none⟩))).run Tryz.prog w=.ok (.iface T x) w:=by go_simp
theorem ld97(w:World)(b o:Nat)(T:TypeId)(x:Value)(h:w.cell? ⟨b,o,none⟩=some (.iface T x)):(Instr.loadAt 97 (.pointer (some ⟨b,o,none⟩))).run Tryz.prog w=.ok (.iface T x) w:=by go_simp
theorem eql90(w:World)(x:Bool):(do eqGuard .eql 90 (.tmp 14) (.const (.bool false)) (.bool x) (.bool false);binOp .eql 90 (.bool x) (.bool false)).run Tryz.prog w=.ok (.bool (!x)) w:=by cases x<;>kernel_rfl
theorem Qfp{o:Oper}{a:Act}{w:World}{K:Act→World→Prop}{Q:Exit→Act→World→Prop}(ho:o.op=.alloc 62)(h:K (a.put o.dst (.pointer (some ⟨w.heap.size,0,none⟩))) (w.alloc (.cells pZero 62))):o.wp Tryz.prog a w K Q:=by
 unfold Oper.wp;simp only[execOp,ho];go_simp;exact h
abbrev pCell(f:Bool)(n:Value)(k1:Int)(t1 i1:ByteArray)(l1:Value)(y1:ByteArray)(k2:Int)(t2 i2:ByteArray)(l2:Value)(y2:ByteArray)(k3:Int)(t3 i3:ByteArray)(l3:Value)(y3:ByteArray)(c:Value):Array Value :=
 #[.bool f,n,.int .i64 k1,.string t1,.string i1,l1,.string y1,.int .i64 k2,.string t2,.string i2,l2,.string y2,.int .i64 k3,.string t3,.string i3,l3,.string y3,c]
theorem Qfq{o:Oper}{a:Act}{w:World}{K:Act→World→Prop}{Q:Exit→Act→World→Prop}(ho:o.op=.build 62 #[(0,.tmp 15),(2,.tmp 20),(3,.tmp 25),(4,.tmp 30)])(f:Bool)(k1:Int)(t1 i1:ByteArray)(p1:Option Addr)(n1 c1:Nat)(y1:ByteArray)(k2:Int)(t2 i2:ByteArray)(p2:Option Addr)(n2 c2:Nat)(y2:ByteArray)(k3:Int)(t3 i3:ByteArray)(p3:Option Addr)(n3 c3:Nat)(y3:ByteArray)
  (h0:a.eval (.tmp 15)=.bool f)(h1:a.eval (.tmp 20)=.agg #[.int .i64 k1,.string t1,.string i1,.slice p1 n1 c1,.string y1])(h2:a.eval (.tmp 25)=.agg #[.int .i64 k2,.string t2,.string i2,.slice p2 n2 c2,.string y2])(h3:a.eval (.tmp 30)=.agg #[.int .i64 k3,.string t3,.string i3,.slice p3 n3 c3,.string y3])
  (h:K (a.put o.dst (.agg (pCell f (.slice none 0 0) k1 t1 i1 (.slice p1 n1 c1) y1 k2 t2 i2 (.slice p2 n2 c2) y2 k3 t3 i3 (.slice p3 n3 c3) y3 (.slice none 0 0)))) w):o.wp Tryz.prog a w K Q:=by
 have h0':a.tmps[15]?.getD undef=.bool f:=by simpa [Act.eval]using h0
 have h1':a.tmps[20]?.getD undef=.agg #[.int .i64 k1,.string t1,.string i1,.slice p1 n1 c1,.string y1]:=by simpa [Act.eval]using h1
 have h2':a.tmps[25]?.getD undef=.agg #[.int .i64 k2,.string t2,.string i2,.slice p2 n2 c2,.string y2]:=by simpa [Act.eval]using h2
 have h3':a.tmps[30]?.getD undef=.agg #[.int .i64 k3,.string t3,.string i3,.slice p3 n3 c3,.string y3]:=by simpa [Act.eval]using h3
 unfold Oper.wp;simp only[execOp,ho];go_simp;exact h
structure PPol where
 forbid:Bool
 notes:List (ByteArray×ByteArray)
 pr:PSc
 ac:PSc
 re:PSc
 conds:List (Bool×PEx)
def Qb1(P:Pol):PPol:=⟨!P.eff,P.notes,toSc P.pr,toSc P.ac,toSc P.re,P.cs.map fun c=>(!c.1,toP c.2)⟩
def CnIs(w:World)(U:Nat→Prop)(cs:List Value)(l:List (Bool×PEx)):Prop :=
 cs.length=l.length*12∧∀i a,l[i]? =some a→cs[i*12]? =some (.bool a.1)∧PxIs w U ((cs.drop (i*12+1)).take 11) a.2
theorem CnIs.ext{w w':World}{U U' S:Nat→Prop}{cs:List Value}{l:List (Bool×PEx)}(h:CnIs w U cs l)(he:Ext S w w')(hs:∀d,U d→d<w.heap.size→¬S d∧U' d):CnIs w' U' cs l:=⟨h.1,fun i a hi=>⟨(h.2 i a hi).1,(h.2 i a hi).2.ext he hs⟩⟩
theorem CnIs.snoc{w:World}{U:Nat→Prop}{cs ds:List Value}{l:List (Bool×PEx)}{b:Bool}{x:PEx}(h:CnIs w U cs l)(hx:PxIs w U ds x):CnIs w U (cs++.bool b::ds) (l++[(b,x)]):=by
 have h11:=hx.len;refine⟨by simp[h.1,h11,Nat.add_mul],fun i a hi=>?_⟩;have hc:=h.1;by_cases hl:i<l.length
 ·rw[List.getElem?_append_left hl]at hi
  have:=h.2 i a hi;rw[List.getElem?_append_left (by omega),List.drop_append_of_le_length (by omega),List.take_append_of_le_length (by rw[List.length_drop];omega)];exact this
 ·rw[List.getElem?_append_right (by omega)]at hi
  have h0:i=l.length:=by
   have:=(List.getElem?_eq_some_iff.1 hi).1;simp at this;omega
  subst h0;simp at hi;subst hi;refine⟨by rw[List.getElem?_append_right (by omega),hc,Nat.sub_self];rfl,?_⟩;rw[List.drop_append,List.drop_eq_nil_of_le (by omega),hc,Nat.add_sub_cancel_left,List.nil_append,List.drop_succ_cons,List.drop_zero,List.take_of_length_le (by omega)];exact hx
def PpIs(w:World)(U:Nat→Prop)(cs:List Value)(P:PPol):Prop :=
 ∃pn cn c1 c2 c3 pc cc cells,cs=.bool P.forbid::.slice pn P.notes.length cn::(c1++c2++c3++[.slice pc P.conds.length cc])∧RwU w U 66 2 pn P.notes.length (Qav P.notes)∧ScsIs w U c1 P.pr∧ScsIs w U c2 P.ac∧ScsIs w U c3 P.re∧RwU w U 80 12 pc P.conds.length cells∧CnIs w U cells P.conds
theorem st62(w:World)(b:Nat)(T:TypeId)(f:Bool)(pn:Option Addr)(nn cn:Nat)(pc:Option Addr)(nc cc:Nat)(k1:Int)(t1 i1:ByteArray)(p1:Option Addr)(n1 c1:Nat)(y1:ByteArray)(k2:Int)(t2 i2:ByteArray)(p2:Option Addr)(n2 c2:Nat)(y2:ByteArray)(k3:Int)(t3 i3:ByteArray)(p3:Option Addr)(n3 c3:Nat)(y3:ByteArray)(h:w.heap[b]? =some (.cells pZero T (0,0))) :
  ∃w',(Instr.storeAt 62 (.pointer (some ⟨b,0,none⟩)) (.agg (pCell f (.slice pn nn cn) k1 t1 i1 (.slice p1 n1 c1) y1 k2 t2 i2 (.slice p2 n2 c2) y2 k3 t3 i3 (.slice p3 n3 c3) y3 (.slice pc nc cc)))).run Tryz.prog w=.ok () w'∧w'.heap[b]? =some (.cells (pCell f (.slice pn nn cn) k1 t1 i1 (.slice p1 n1 c1) y1 k2 t2 i2 (.slice p2 n2 c2) y2 k3 t3 i3 (.slice p3 n3 c3) y3 (.slice pc nc cc)) T (0,0))∧Ext (·=b) w w':=by
 obtain⟨e0,e1,e2,e3,e4,e5,e6,e7,e8,e9,e10,e11,e12,e13,e14,e15,e16,e17,f0,f1,f2,f3,f4,f5,f6,f7,f8,f9,f10,f11,f12,f13,f14,f15,f16,f17⟩:=zero18 h;obtain⟨w',hw,h1,h2⟩:=box18 h rfl (.bool f) (.slice pn nn cn) (.int .i64 k1) (.string t1) (.string i1) (.slice p1 n1 c1) (.string y1) (.int .i64 k2) (.string t2) (.string i2) (.slice p2 n2 c2) (.string y2) (.int .i64 k3) (.string t3) (.string i3) (.slice p3 n3 c3) (.string y3) (.slice pc nc cc)
 refine⟨w',?_,h1,h2⟩;rw[←hw];clear hw h1 h2 h;go_simp
def ΦP(tb H:Nat)(f:Bool)(prv acv rev:Value)(pr ac re:PSc)(j:Nat)(v:Value)(w:World):Prop:=match j with
 | 0=>v=.pointer (some ⟨tb,0,none⟩)
 | 1=>v=.pointer (some ⟨tb,0,none⟩)
 | 2=>v=.pointer (some ⟨tb,0,none⟩)
 | 3=>v=.bool f
 | 4=>v=.bool (!f)
 | 5=>v=.pointer (some ⟨tb,0,none⟩)
 | 6=>v=.pointer (some ⟨tb,0,none⟩)
 | 7=>v=.pointer (some ⟨tb,2,none⟩)
 | 8=>v=prv
 | 9=>∃cs,v=.agg cs.toArray∧ScsIs w (H≤·) cs pr
 | 10=>v=.pointer (some ⟨tb,0,none⟩)
 | 11=>v=.pointer (some ⟨tb,0,none⟩)
 | 12=>v=.pointer (some ⟨tb,3,none⟩)
 | 13=>v=acv
 | 14=>∃cs,v=.agg cs.toArray∧ScsIs w (H≤·) cs ac
 | 15=>v=.pointer (some ⟨tb,0,none⟩)
 | 16=>v=.pointer (some ⟨tb,0,none⟩)
 | 17=>v=.pointer (some ⟨tb,4,none⟩)
 | 18=>v=rev
 | 19=>∃cs,v=.agg cs.toArray∧ScsIs w (H≤·) cs re
 | 20=>∃c1 c2 c3,v=.agg (.bool (!f)::.slice none 0 0::(c1++c2++c3++[.slice none 0 0])).toArray∧ScsIs w (H≤·) c1 pr∧ScsIs w (H≤·) c2 ac∧ScsIs w (H≤·) c3 re
 | 21=>∃blk,v=.pointer (some ⟨blk,0,none⟩)∧w.heap[blk]? =some (.cells pZero 62 (0,0))∧H≤blk
 | _=>True
theorem ScsIs.stay{w w':World}{U:Nat→Prop}{cs:List Value}{x:PSc}(h:ScsIs w U cs x)(he:Ext (fun _=>False) w w'):ScsIs w' U cs x:=h.ext he (fun d hd _=>⟨id,hd⟩)
theorem ΦP.kept{tb H:Nat}{f:Bool}{prv acv rev:Value}{pr ac re:PSc}{j:Nat}{v:Value}{w w':World}(hE:Ext (fun _=>False) w w')(h:ΦP tb H f prv acv rev pr ac re j v w):ΦP tb H f prv acv rev pr ac re j v w':=by
 unfold ΦP at h ⊢;split<;>first | exact trivial | exact h | skip
 ·obtain⟨cs,h1,h2⟩:=h;exact⟨cs,h1,h2.stay hE⟩
 ·obtain⟨cs,h1,h2⟩:=h;exact⟨cs,h1,h2.stay hE⟩
 ·obtain⟨cs,h1,h2⟩:=h;exact⟨cs,h1,h2.stay hE⟩
 ·obtain⟨c1,c2,c3,h1,h2,h3,h4⟩:=h;exact⟨c1,c2,c3,h1,h2.stay hE,h3.stay hE,h4.stay hE⟩
 ·obtain⟨blk,h1,h2,h3⟩:=h;exact⟨blk,h1,hE.heap id h2,h3⟩
theorem QcJ{w:World}{d:Nat}{c c':Array Value}{T T':TypeId}{fr fr':Nat×Nat}(h:w.heap[d]? =some (.cells c T fr))(h':w.heap[d]? =some (.cells c' T' fr'))(hne:T≠T'):False:=by
 rw[h]at h';cases h';exact hne rfl
theorem RwU.extT{w w':World}{U S:Nat→Prop}{tag z:Nat}{p:Option Addr}{n:Nat}{cs:List Value}(h:RwU w U tag z p n cs)(he:Ext S w w')(hs:∀d c fr,w.heap[d]? =some (.cells c tag fr)→¬S d):RwU w' U tag z p n cs:=by
 obtain⟨h1,h2 | ⟨b,off,c,fr,a1,a2,a3,a4⟩⟩:=h
 ·exact⟨h1,.inl h2⟩
 ·exact⟨h1,.inr ⟨b,off,c,fr,a1,a2,he.heap (hs b _ _ a3) a3,a4⟩⟩
theorem RwU.mono{w:World}{U U':Nat→Prop}{tag z:Nat}{p:Option Addr}{n:Nat}{cs:List Value}(h:RwU w U tag z p n cs)(hu:∀d,U d→U' d):RwU w U' tag z p n cs:=by
 obtain⟨h1,h2 | ⟨b,off,c,fr,a1,a2,a3⟩⟩:=h
 ·exact⟨h1,.inl h2⟩
 ·exact⟨h1,.inr ⟨b,off,c,fr,a1,hu _ a2,a3⟩⟩
theorem PxIs.extT{w w':World}{U S:Nat→Prop}{cs:List Value}{x:PEx}(h:PxIs w U cs x)(he:Ext S w w')(h9:∀d c fr,w.heap[d]? =some (.cells c 9 fr)→¬S d)(h33:∀d c fr,w.heap[d]? =some (.cells c 33 fr)→¬S d):PxIs w' U cs x:=by
 induction h with
 | mk op s v keys pieces l pk pp pl ck cp cl cs hk hp hl _ ih=>exact .mk op s v keys pieces l pk pp pl ck cp cl cs (hk.extT he h9) (hp.extT he h9) (hl.extT he h33) ih
theorem PxIs.mono{w:World}{U U':Nat→Prop}{cs:List Value}{x:PEx}(h:PxIs w U cs x)(hu:∀d,U d→U' d):PxIs w U' cs x:=h.ext (S:=fun _=>False) (.refl _ _) (fun d hd _=>⟨id,hu d hd⟩)
theorem CnIs.extT{w w':World}{U S:Nat→Prop}{cs:List Value}{l:List (Bool×PEx)}(h:CnIs w U cs l)(he:Ext S w w')(h9:∀d c fr,w.heap[d]? =some (.cells c 9 fr)→¬S d)(h33:∀d c fr,w.heap[d]? =some (.cells c 33 fr)→¬S d):CnIs w' U cs l:=⟨h.1,fun i a hi=>⟨(h.2 i a hi).1,(h.2 i a hi).2.extT he h9 h33⟩⟩
theorem CnIs.nil{w:World}{U:Nat→Prop}:CnIs w U [] []:=⟨rfl,fun i a h=>by simp at h⟩
def S3(w:World)(H:Nat)(pr ac re:PSc)(p1 p2 p3:Option Addr):Prop :=
 RwU w (H≤·) 56 2 p1 pr.l.length (Qav pr.l)∧RwU w (H≤·) 56 2 p2 ac.l.length (Qav ac.l)∧RwU w (H≤·) 56 2 p3 re.l.length (Qav re.l)
theorem S3.extT{w w':World}{S:Nat→Prop}{H:Nat}{pr ac re:PSc}{p1 p2 p3:Option Addr}(h:S3 w H pr ac re p1 p2 p3)(he:Ext S w w')(hs:∀d c fr,w.heap[d]? =some (.cells c 56 fr)→¬S d):S3 w' H pr ac re p1 p2 p3 :=
 ⟨h.1.extT he hs,h.2.1.extT he hs,h.2.2.extT he hs⟩
abbrev pC(f:Bool)(pr ac re:PSc)(p1 p2 p3:Option Addr)(c1 c2 c3:Nat)(n c:Value):Array Value :=
 pCell f n pr.kind pr.u.1 pr.u.2 (.slice p1 pr.l.length c1) pr.ty ac.kind ac.u.1 ac.u.2 (.slice p2 ac.l.length c2) ac.ty re.kind re.u.1 re.u.2 (.slice p3 re.l.length c3) re.ty c
theorem sl54:SlT Tryz.prog 54 66 (.agg #[.string ⟨#[]⟩,.string ⟨#[]⟩]) 2 32:=⟨by kernel_rfl,⟨Tryz.t66,by kernel_rfl,by kernel_rfl,by kernel_rfl,by kernel_rfl⟩,rfl,by decide⟩
theorem sl60:SlT Tryz.prog 60 80 (.agg #[.bool false,.int .i64 0,.string ⟨#[]⟩,.int .i64 0,.int .i64 0,.string ⟨#[]⟩,.string ⟨#[]⟩,.slice none 0 0,.slice none 0 0,.slice none 0 0,.slice none 0 0,.slice none 0 0]) 12 200:=⟨by kernel_rfl,⟨Tryz.t80,by kernel_rfl,by kernel_rfl,by kernel_rfl,by kernel_rfl⟩,rfl,by decide⟩
def NtRl(w0:World)(f:Bool)(pr ac re:PSc)(p1 p2 p3:Option Addr)(c1 c2 c3 blk:Nat)(l:List (ByteArray×ByteArray))(sl:Value)(wr:World):Prop :=
 ∃i vN,sl=.int .i64 ((i:Nat):Int)∧i≤l.length∧wr.heap[w0.heap.size]? =some (.cells pZero 62 (0,0))∧wr.heap[blk]? =some (.cells (pC f pr ac re p1 p2 p3 c1 c2 c3 vN (.slice none 0 0)) 62 (0,0)) ∧
  wr.ownsRow w0.heap.size 66 2 vN i (Qav (l.take i))∧S3 wr w0.heap.size pr ac re p1 p2 p3∧Below w0.heap.size w0 wr
def CdRl(w0:World)(f:Bool)(pr ac re:PSc)(p1 p2 p3:Option Addr)(c1 c2 c3 blk:Nat)(pN:Option Addr)(cN:Nat)(ns:List (ByteArray×ByteArray))(ys:List (Bool×PEx))(sl:Value)(wr:World):Prop :=
 ∃i vC cs,sl=.int .i64 ((i:Nat):Int)∧i≤ys.length∧wr.heap[w0.heap.size]? =some (.cells pZero 62 (0,0))∧wr.heap[blk]? =some (.cells (pC f pr ac re p1 p2 p3 c1 c2 c3 (.slice pN ns.length cN) vC) 62 (0,0)) ∧
  RwU wr (w0.heap.size≤·) 66 2 pN ns.length (Qav ns)∧wr.ownsRow w0.heap.size 80 12 vC i cs∧CnIs wr (w0.heap.size≤·) cs (ys.take i)∧S3 wr w0.heap.size pr ac re p1 p2 p3∧Below w0.heap.size w0 wr
theorem wpL_load{P:Program}{ops:Array Oper}{rest:List Oper}{o:Oper}{a:Act}{w:World}{Q:Exit→Act→World→Prop}(hg:o.guard=none)(t:TypeId)(x:Operand)(ho:o.op=.load t x)(p:Value)(hx:a.eval x=p)(v:Value)(hr:(Instr.loadAt t p).run P w=.ok v w)(h:wpList P ops Q rest (a.put o.dst v) w):wpList P ops Q (o::rest) a w :=
 wpList_plain hg fun K hK=>QaO t x ho p hx v hr (hK _ _ h)
theorem QdA{P:Program}{ops:Array Oper}{rest:List Oper}{o:Oper}{a:Act}{w:World}{Q:Exit→Act→World→Prop}(hg:o.guard=none)(t:TypeId)(x y:Operand)(ho:o.op=.store t x y)(p:Value)(hx:a.eval x=p)(v:Value)(hy:a.eval y=v)(w':World)(hr:(Instr.storeAt t p v).run P w=.ok () w')(h:wpList P ops Q rest (a.put o.dst undef) w'):wpList P ops Q (o::rest) a w :=
 wpList_plain hg fun K hK=>Qct t x y ho p hx v hy w' hr (hK _ _ h)
theorem ld62(w:World)(b:Nat)(f:Bool)(pn:Option Addr)(nn cn:Nat)(k1:Int)(t1 i1:ByteArray)(p1:Option Addr)(n1 c1:Nat)(y1:ByteArray)(k2:Int)(t2 i2:ByteArray)(p2:Option Addr)(n2 c2:Nat)(y2:ByteArray)(k3:Int)(t3 i3:ByteArray)(p3:Option Addr)(n3 c3:Nat)(y3:ByteArray)(pc:Option Addr)(nc cc:Nat)
  (h:w.heap[b]? =some (.cells (pCell f (.slice pn nn cn) k1 t1 i1 (.slice p1 n1 c1) y1 k2 t2 i2 (.slice p2 n2 c2) y2 k3 t3 i3 (.slice p3 n3 c3) y3 (.slice pc nc cc)) 62 (0,0))) :
  (Instr.loadAt 62 (.pointer (some ⟨b,0,none⟩))).run Tryz.prog w=.ok (.agg (pCell f (.slice pn nn cn) k1 t1 i1 (.slice p1 n1 c1) y1 k2 t2 i2 (.slice p2 n2 c2) y2 k3 t3 i3 (.slice p3 n3 c3) y3 (.slice pc nc cc))) w:=by
 have hl:=load18 (P:=Tryz.prog) (t:=62) b 0 w _ _ _ _ _ _ _ _ _ _ _ _ _ _ _ _ _ _ (by kernel_rfl) (by kernel_rfl) (Qaa (o:=0) h rfl) (Qaa (o:=1) h rfl) (Qaa (o:=2) h rfl) (Qaa (o:=3) h rfl) (Qaa (o:=4) h rfl) (Qaa (o:=5) h rfl) (Qaa (o:=6) h rfl) (Qaa (o:=7) h rfl) (Qaa (o:=8) h rfl) (Qaa (o:=9) h rfl) (Qaa (o:=10) h rfl) (Qaa (o:=11) h rfl) (Qaa (o:=12) h rfl) (Qaa (o:=13) h rfl) (Qaa (o:=14) h rfl) (Qaa (o:=15) h rfl) (Qaa (o:=16) h rfl) (Qaa (o:=17) h rfl)
 exact hl
end Go.Proofs.Pg
