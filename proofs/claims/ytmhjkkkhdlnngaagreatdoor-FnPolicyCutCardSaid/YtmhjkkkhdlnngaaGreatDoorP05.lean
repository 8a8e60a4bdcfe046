/- FnPolicyCut, part 5. -/
import Derived.Test.YtmhjkkkhdlnngaaGreatDoorP00
import Derived.Test.YtmhjkkkhdlnngaaGreatDoorP01
import Derived.Test.YtmhjkkkhdlnngaaGreatDoorP02
import Derived.Shelf.Unicode.DecodeAny
set_option linter.all false
set_option maxRecDepth 100000
set_option maxHeartbeats 0
namespace Go.Proofs.Pg
open Go.RowKit Go.Proofs.Tryz
attribute [local go_sem] Oper.semAt_some
def QaY(w:World)(v:Value)(e:Ending)(w':World):Prop:=e=.returned (.agg #[v])∧Below w.heap.size w w'
theorem Qaq{W:World}{fn:Func}{R:Nat}{v:Value}{Q:Ending→World→Prop}(a:Act)(s:Nat)(hf:fn.results=#[.cell s 299])(ha:a.tmps.getD s undef=.pointer (some ⟨R,0,none⟩))(had:a.defers=[])
  (r:W.heap[R]? =some (.cells #[v] 299 (0,0)))(h:Q (.returned (.agg #[v])) W):bodyPost prog fn Q Exit.ret a W:=by
 refine bodyPost_ret (Qao (a:=s) (t:=299) hf _ ⟨R,0,none⟩ ha _ _ (QcP _ _ _ _ (by kernel_rfl) (by kernel_rfl) (Qaa (o:=0) r rfl))) had h
theorem Qah{w:World}{R:Nat}(h:R=w.heap.size)(o:Obj):(w.alloc o).heap[R]? =some o:=by subst h;exact Xa _ _
theorem Qan{W w2:World}{R:Nat}(hb:Below W.heap.size W w2)(r:W.heap[R]? =some (.cells #[.nilIface] 299 (0,0))):w2.cell? ⟨R,0,none⟩=some .nilIface∧w2.frozen? ⟨R,0,none⟩=false∧Hid (w2.heap[R]? =some (.cells #[.nilIface] 299 (0,0))):=by
 have:=(hb.block R (Qad r)).trans r;exact⟨Qaa this rfl,Qae this 0,Hi this⟩
theorem Qap{w W w2:World}{R:Nat}{v:Value}(h0:Ext (fun _=>False) w W)(hb:Below W.heap.size W w2)(hR:w.heap.size≤R):Below w.heap.size w (w2.setCell ⟨R,0,none⟩ v) :=
 ((h0.trans (.below hb)).set (.inr hR) _).toBelow (fun _ h=>h.elim) (Xb _)
theorem Qar(T:TypeId)(x:Value)(w:World):Calls prog 193 #[.iface T x] w (QaY w (.iface T x)):=by
 go_enter func193,ntmps193;go_wp2;exact Qaq (R:=w.heap.size) _ 2 (by kernel_rfl) rfl rfl (Xa w _) ⟨rfl,Qab w _⟩
def NdC1(F:FuncId)(K:TypeId):Prop:=∀(T U:TypeId)(x y:Value)(w:World),Calls prog F #[.agg #[.iface T x],.agg #[.iface U y]] w (QaY w (.iface K (.agg #[.iface T x,.iface U y])))
theorem QiY:NdC1 195 260∧NdC1 207 262∧NdC1 221 263∧NdC1 222 264∧NdC1 223 265∧NdC1 224 266∧NdC1 225 267∧NdC1 226 268∧NdC1 227 269∧NdC1 231 276∧NdC1 232 275∧NdC1 241 277∧NdC1 282 278∧NdC1 283 279∧NdC1 284 280∧NdC1 285 270∧NdC1 286 271:=by
 refine⟨?_,?_,?_,?_,?_,?_,?_,?_,?_,?_,?_,?_,?_,?_,?_,?_,?_⟩
 all_goals
  intro T U x y w
  first | go_enter func195,ntmps195 | go_enter func207,ntmps207 | go_enter func221,ntmps221 | go_enter func222,ntmps222 | go_enter func223,ntmps223 | go_enter func224,ntmps224 | go_enter func225,ntmps225 | go_enter func226,ntmps226 | go_enter func227,ntmps227 | go_enter func231,ntmps231 | go_enter func232,ntmps232 | go_enter func241,ntmps241 | go_enter func282,ntmps282 | go_enter func283,ntmps283 | go_enter func284,ntmps284 | go_enter func285,ntmps285 | go_enter func286,ntmps286
  go_wp2_with fail
  refine(Qar _ _ _).mono ?_;rintro e w2⟨rfl,hb⟩;obtain⟨z1,z2,z3⟩:=Qan (R:=w.heap.size+1+1) hb (Qah (by simp) _);have hE:=fun K=>Qap (w:=w) (R:=w.heap.size+1+1) (v:=.iface K (.agg #[.iface T x,.iface U y])) ((((Ext.refl _ w).alloc _).alloc _).alloc _) hb (by omega)
  have HE:=Hi hE;clear hb hE;go_wp2;exact Qaq (R:=w.heap.size+1+1) _ 4 (by kernel_rfl) rfl rfl (Qac (o:=0) z3.out _) ⟨rfl,HE.out _⟩
theorem n195_c:NdC1 195 260:=QiY.1
theorem n207_c:NdC1 207 262:=QiY.2.1
theorem n221_c:NdC1 221 263:=QiY.2.2.1
theorem n222_c:NdC1 222 264:=QiY.2.2.2.1
theorem n223_c:NdC1 223 265:=QiY.2.2.2.2.1
theorem n224_c:NdC1 224 266:=QiY.2.2.2.2.2.1
theorem n225_c:NdC1 225 267:=QiY.2.2.2.2.2.2.1
theorem n226_c:NdC1 226 268:=QiY.2.2.2.2.2.2.2.1
theorem n227_c:NdC1 227 269:=QiY.2.2.2.2.2.2.2.2.1
theorem n231_c:NdC1 231 276:=QiY.2.2.2.2.2.2.2.2.2.1
theorem n232_c:NdC1 232 275:=QiY.2.2.2.2.2.2.2.2.2.2.1
theorem n241_c:NdC1 241 277:=QiY.2.2.2.2.2.2.2.2.2.2.2.1
theorem n282_c:NdC1 282 278:=QiY.2.2.2.2.2.2.2.2.2.2.2.2.1
theorem n283_c:NdC1 283 279:=QiY.2.2.2.2.2.2.2.2.2.2.2.2.2.1
theorem n284_c:NdC1 284 280:=QiY.2.2.2.2.2.2.2.2.2.2.2.2.2.2.1
theorem n285_c:NdC1 285 270:=QiY.2.2.2.2.2.2.2.2.2.2.2.2.2.2.2.1
theorem n286_c:NdC1 286 271:=QiY.2.2.2.2.2.2.2.2.2.2.2.2.2.2.2.2
def NdC2(F:FuncId)(K:TypeId):Prop:=∀(T:TypeId)(x:Value)(w:World),Calls prog F #[.agg #[.iface T x]] w (QaY w (.iface K (.agg #[.iface T x])))
theorem QiZ:NdC2 249 208∧NdC2 250 209∧NdC2 288 210:=by
 refine⟨?_,?_,?_⟩
 all_goals
  intro T x w
  first | go_enter func249,ntmps249 | go_enter func250,ntmps250 | go_enter func288,ntmps288
  go_wp2_with fail
  refine(Qar _ _ _).mono ?_;rintro e w2⟨rfl,hb⟩;obtain⟨z1,z2,z3⟩:=Qan (R:=w.heap.size+1) hb (Qah (by simp) _);have hE:=fun K=>Qap (w:=w) (R:=w.heap.size+1) (v:=.iface K (.agg #[.iface T x])) (((Ext.refl _ w).alloc _).alloc _) hb (by omega)
  have HE:=Hi hE;clear hb hE;go_wp2;exact Qaq (R:=w.heap.size+1) _ 2 (by kernel_rfl) rfl rfl (Qac (o:=0) z3.out _) ⟨rfl,HE.out _⟩
theorem Qgw:NdC2 249 208:=QiZ.1
theorem Qgx:NdC2 250 209:=QiZ.2.1
theorem n288_c:NdC2 288 210:=QiZ.2.2
def NdC3(F:FuncId)(K:TypeId):Prop:=∀(T:TypeId)(x:Value)(s:ByteArray)(w:World),Calls prog F #[.agg #[.iface T x],.string s] w (QaY w (.iface K (.agg #[.iface T x,.string s])))
theorem Qja:NdC3 233 193∧NdC3 234 194∧NdC3 238 202:=by
 refine⟨?_,?_,?_⟩
 all_goals
  intro T x s w
  first | go_enter func233,ntmps233 | go_enter func234,ntmps234 | go_enter func238,ntmps238
  go_wp2_with fail
  refine(Qar _ _ _).mono ?_;rintro e w2⟨rfl,hb⟩;obtain⟨z1,z2,z3⟩:=Qan (R:=w.heap.size+1) hb (Qah (by simp) _);have hE:=fun K=>Qap (w:=w) (R:=w.heap.size+1) (v:=.iface K (.agg #[.iface T x,.string s])) (((Ext.refl _ w).alloc _).alloc _) hb (by omega)
  have HE:=Hi hE;clear hb hE;go_wp2;exact Qaq (R:=w.heap.size+1) _ 4 (by kernel_rfl) rfl rfl (Qac (o:=0) z3.out _) ⟨rfl,HE.out _⟩
theorem Qgy:NdC3 233 193:=Qja.1
theorem Qft:NdC3 234 194:=Qja.2.1
theorem n238_c:NdC3 238 202:=Qja.2.2
theorem n236_c(T:TypeId)(x:Value)(p:Option Addr)(n c:Nat)(w:World):Calls prog 236 #[.agg #[.iface T x],.agg #[.slice p n c]] w (QaY w (.iface 199 (.agg #[.iface T x,.slice p n c]))):=by
 go_enter func236,ntmps236
 go_wp2_with fail
 refine(Qar _ _ _).mono ?_;rintro e w2⟨rfl,hb⟩;obtain⟨z1,z2,z3⟩:=Qan (R:=w.heap.size+1+1) hb (Qah (by simp) _);have hE:=Qap (w:=w) (R:=w.heap.size+1+1) (v:=.iface 199 (.agg #[.iface T x,.slice p n c])) ((((Ext.refl _ w).alloc _).alloc _).alloc _) hb (by omega);have HE:=Hi hE;clear hb hE;go_wp2;exact Qaq (R:=w.heap.size+1+1) _ 4 (by kernel_rfl) rfl rfl (Qac (o:=0) z3.out _) ⟨rfl,HE.out⟩
theorem n237_c(T U:TypeId)(x y:Value)(s:ByteArray)(w:World):Calls prog 237 #[.agg #[.iface T x],.string s,.agg #[.iface U y]] w (QaY w (.iface 204 (.agg #[.iface T x,.string s,.iface U y]))):=by
 go_enter func237,ntmps237
 go_wp2_with fail
 refine(Qar _ _ _).mono ?_;rintro e w2⟨rfl,hb⟩;obtain⟨z1,z2,z3⟩:=Qan (R:=w.heap.size+1+1) hb (Qah (by simp) _);have hE:=Qap (w:=w) (R:=w.heap.size+1+1) (v:=.iface 204 (.agg #[.iface T x,.string s,.iface U y])) ((((Ext.refl _ w).alloc _).alloc _).alloc _) hb (by omega);have HE:=Hi hE;clear hb hE;go_wp2;exact Qaq (R:=w.heap.size+1+1) _ 6 (by kernel_rfl) rfl rfl (Qac (o:=0) z3.out _) ⟨rfl,HE.out⟩
theorem n174_c(T U V:TypeId)(x y z:Value)(w:World):Calls prog 174 #[.agg #[.iface T x],.agg #[.iface U y],.agg #[.iface V z]] w (QaY w (.iface 188 (.agg #[.iface T x,.iface U y,.iface V z]))):=by
 go_enter func174,ntmps174
 go_wp2_with fail
 refine(Qar _ _ _).mono ?_;rintro e w2⟨rfl,hb⟩;obtain⟨z1,z2,z3⟩:=Qan (R:=w.heap.size+1+1+1) hb (Qah (by simp) _);have hE:=Qap (w:=w) (R:=w.heap.size+1+1+1) (v:=.iface 188 (.agg #[.iface T x,.iface U y,.iface V z])) (((((Ext.refl _ w).alloc _).alloc _).alloc _).alloc _) hb (by omega);have HE:=Hi hE;clear hb hE;go_wp2;exact Qaq (R:=w.heap.size+1+1+1) _ 6 (by kernel_rfl) rfl rfl (Qac (o:=0) z3.out _) ⟨rfl,HE.out⟩
theorem Qfu(T:TypeId)(x:Value)(w:World):Calls prog 256 #[.iface T x] w (QaY w (.iface 182 (.agg #[.iface T x]))):=by
 go_enter func256,ntmps256
 go_wp2_with fail
 refine(Qar _ _ _).mono ?_;rintro e w2⟨rfl,hb⟩;obtain⟨z1,z2,z3⟩:=Qan (R:=w.heap.size) hb (Qah (by simp) _);have hE:=Qap (w:=w) (R:=w.heap.size) (v:=.iface 182 (.agg #[.iface T x])) ((Ext.refl _ w).alloc _) hb (by omega);have HE:=Hi hE;clear hb hE;go_wp2;exact Qaq (R:=w.heap.size) _ 2 (by kernel_rfl) rfl rfl (Qac (o:=0) z3.out _) ⟨rfl,HE.out⟩
theorem n247_c(n:Int)(w:World):Calls prog 247 #[.int .i64 n] w (QaY w (.iface 182 (.agg #[.iface 253 (.int .i64 n)]))):=by
 go_enter func247,ntmps247
 go_wp2_with fail
 refine(Qfu _ _ _).mono ?_;rintro e w2⟨rfl,hb⟩;obtain⟨z1,z2,z3⟩:=Qan (R:=w.heap.size) hb (Qah (by simp) _);have hE:=Qap (w:=w) (R:=w.heap.size) (v:=.iface 182 (.agg #[.iface 253 (.int .i64 n)])) ((Ext.refl _ w).alloc _) hb (by omega);have HE:=Hi hE;clear hb hE;go_wp2;exact Qaq (R:=w.heap.size) _ 2 (by kernel_rfl) rfl rfl (Qac (o:=0) z3.out _) ⟨rfl,HE.out⟩
theorem n270_c(s:ByteArray)(w:World):Calls prog 270 #[.string s] w (QaY w (.iface 182 (.agg #[.iface 131 (.string s)]))):=by
 go_enter func270,ntmps270
 go_wp2_with fail
 refine(Qfu _ _ _).mono ?_;rintro e w2⟨rfl,hb⟩;obtain⟨z1,z2,z3⟩:=Qan (R:=w.heap.size) hb (Qah (by simp) _);have hE:=Qap (w:=w) (R:=w.heap.size) (v:=.iface 182 (.agg #[.iface 131 (.string s)])) ((Ext.refl _ w).alloc _) hb (by omega);have HE:=Hi hE;clear hb hE;go_wp2;exact Qaq (R:=w.heap.size) _ 2 (by kernel_rfl) rfl rfl (Qac (o:=0) z3.out _) ⟨rfl,HE.out⟩
theorem n297_c(b:Bool)(w:World):Calls prog 297 #[.bool b] w (QaY w (.iface 182 (.agg #[.iface 252 (.bool b)]))):=by
 go_enter func297,ntmps297
 go_wp2_with fail
 refine(Qfu _ _ _).mono ?_;rintro e w2⟨rfl,hb⟩;obtain⟨z1,z2,z3⟩:=Qan (R:=w.heap.size) hb (Qah (by simp) _);have hE:=Qap (w:=w) (R:=w.heap.size) (v:=.iface 182 (.agg #[.iface 252 (.bool b)])) ((Ext.refl _ w).alloc _) hb (by omega);have HE:=Hi hE;clear hb hE;go_wp2;exact Qaq (R:=w.heap.size) _ 2 (by kernel_rfl) rfl rfl (Qac (o:=0) z3.out _) ⟨rfl,HE.out⟩
theorem n271_c(w:World):Calls prog 271 #[] w (QaY w (.iface 182 (.agg #[.iface 252 (.bool true)]))):=by
 go_enter func271,ntmps271
 go_wp2_with fail
 refine(n297_c _ _).mono ?_;rintro e w2⟨rfl,hb⟩;obtain⟨z1,z2,z3⟩:=Qan (R:=w.heap.size) hb (Qah (by simp) _);have hE:=Qap (w:=w) (R:=w.heap.size) (v:=.iface 182 (.agg #[.iface 252 (.bool true)])) ((Ext.refl _ w).alloc _) hb (by omega);have HE:=Hi hE;clear hb hE;go_wp2;exact Qaq (R:=w.heap.size) _ 0 (by kernel_rfl) rfl rfl (Qac (o:=0) z3.out _) ⟨rfl,HE.out⟩
theorem n272_c(w:World):Calls prog 272 #[] w (QaY w (.iface 182 (.agg #[.iface 252 (.bool false)]))):=by
 go_enter func272,ntmps272
 go_wp2_with fail
 refine(n297_c _ _).mono ?_;rintro e w2⟨rfl,hb⟩;obtain⟨z1,z2,z3⟩:=Qan (R:=w.heap.size) hb (Qah (by simp) _);have hE:=Qap (w:=w) (R:=w.heap.size) (v:=.iface 182 (.agg #[.iface 252 (.bool false)])) ((Ext.refl _ w).alloc _) hb (by omega);have HE:=Hi hE;clear hb hE;go_wp2;exact Qaq (R:=w.heap.size) _ 0 (by kernel_rfl) rfl rfl (Qac (o:=0) z3.out _) ⟨rfl,HE.out⟩
theorem n300_c(w:World):Calls prog 300 #[] w fun e w'=>e=.returned (.agg #[.string ⟨#[112,114,105,110,99,105,112,97,108]⟩])∧Below w.heap.size w w':=by
 go_enter func300,ntmps300;go_wp2;exact bodyPost_ret (Qao (a:=0) (t:=186) (by kernel_rfl) _ ⟨w.heap.size,0,none⟩ rfl _ _ (QcP _ _ _ _ (by kernel_rfl) (by kernel_rfl) (Qaa (o:=0) (Xa w _) rfl))) rfl ⟨rfl,Qab w _⟩
theorem n274_c(w:World):Calls prog 274 #[] w (QaY w (.iface 186 (.agg #[.string ⟨#[112,114,105,110,99,105,112,97,108]⟩]))):=by
 go_enter func274,ntmps274
 go_wp2_with fail
 refine(n300_c _).mono ?_;rintro e w1⟨rfl,hb1⟩;have hs:=hb1.size;have r1:w1.heap[w.heap.size]? =some (.cells #[.nilIface] 299 (0,0)):=(hb1.block _ (by simp)).trans (Xa w _);have hb0:Below w.heap.size w w1:=(Qab w _).trans (hb1.mono (by simp));have R1:=Hi r1;clear r1 hb1
 go_wp2_with fail
 refine(Qar _ _ _).mono ?_;rintro e w2⟨rfl,hb⟩;obtain⟨z1,z2,z3⟩:=Qan hb R1.out;have hE:=Qap (w:=w) (R:=w.heap.size) (v:=.iface 186 (.agg #[.string ⟨#[112,114,105,110,99,105,112,97,108]⟩])) (Ext.below hb0) hb (by omega);have HE:=Hi hE;clear hb hE;go_wp2;exact Qaq (R:=w.heap.size) _ 0 (by kernel_rfl) rfl rfl (Qac (o:=0) z3.out _) ⟨rfl,HE.out⟩
theorem n301_c(w:World):Calls prog 301 #[] w fun e w'=>e=.returned (.agg #[.string ⟨#[97,99,116,105,111,110]⟩])∧Below w.heap.size w w':=by
 go_enter func301,ntmps301;go_wp2;exact bodyPost_ret (Qao (a:=0) (t:=186) (by kernel_rfl) _ ⟨w.heap.size,0,none⟩ rfl _ _ (QcP _ _ _ _ (by kernel_rfl) (by kernel_rfl) (Qaa (o:=0) (Xa w _) rfl))) rfl ⟨rfl,Qab w _⟩
theorem n275_c(w:World):Calls prog 275 #[] w (QaY w (.iface 186 (.agg #[.string ⟨#[97,99,116,105,111,110]⟩]))):=by
 go_enter func275,ntmps275
 go_wp2_with fail
 refine(n301_c _).mono ?_;rintro e w1⟨rfl,hb1⟩;have hs:=hb1.size;have r1:w1.heap[w.heap.size]? =some (.cells #[.nilIface] 299 (0,0)):=(hb1.block _ (by simp)).trans (Xa w _);have hb0:Below w.heap.size w w1:=(Qab w _).trans (hb1.mono (by simp));have R1:=Hi r1;clear r1 hb1
 go_wp2_with fail
 refine(Qar _ _ _).mono ?_;rintro e w2⟨rfl,hb⟩;obtain⟨z1,z2,z3⟩:=Qan hb R1.out;have hE:=Qap (w:=w) (R:=w.heap.size) (v:=.iface 186 (.agg #[.string ⟨#[97,99,116,105,111,110]⟩])) (Ext.below hb0) hb (by omega);have HE:=Hi hE;clear hb hE;go_wp2;exact Qaq (R:=w.heap.size) _ 0 (by kernel_rfl) rfl rfl (Qac (o:=0) z3.out _) ⟨rfl,HE.out⟩
theorem n302_c(w:World):Calls prog 302 #[] w fun e w'=>e=.returned (.agg #[.string ⟨#[114,101,115,111,117,114,99,101]⟩])∧Below w.heap.size w w':=by
 go_enter func302,ntmps302;go_wp2;exact bodyPost_ret (Qao (a:=0) (t:=186) (by kernel_rfl) _ ⟨w.heap.size,0,none⟩ rfl _ _ (QcP _ _ _ _ (by kernel_rfl) (by kernel_rfl) (Qaa (o:=0) (Xa w _) rfl))) rfl ⟨rfl,Qab w _⟩
theorem n276_c(w:World):Calls prog 276 #[] w (QaY w (.iface 186 (.agg #[.string ⟨#[114,101,115,111,117,114,99,101]⟩]))):=by
 go_enter func276,ntmps276
 go_wp2_with fail
 refine(n302_c _).mono ?_;rintro e w1⟨rfl,hb1⟩;have hs:=hb1.size;have r1:w1.heap[w.heap.size]? =some (.cells #[.nilIface] 299 (0,0)):=(hb1.block _ (by simp)).trans (Xa w _);have hb0:Below w.heap.size w w1:=(Qab w _).trans (hb1.mono (by simp));have R1:=Hi r1;clear r1 hb1
 go_wp2_with fail
 refine(Qar _ _ _).mono ?_;rintro e w2⟨rfl,hb⟩;obtain⟨z1,z2,z3⟩:=Qan hb R1.out;have hE:=Qap (w:=w) (R:=w.heap.size) (v:=.iface 186 (.agg #[.string ⟨#[114,101,115,111,117,114,99,101]⟩])) (Ext.below hb0) hb (by omega);have HE:=Hi hE;clear hb hE;go_wp2;exact Qaq (R:=w.heap.size) _ 0 (by kernel_rfl) rfl rfl (Qac (o:=0) z3.out _) ⟨rfl,HE.out⟩
theorem n303_c(w:World):Calls prog 303 #[] w fun e w'=>e=.returned (.agg #[.string ⟨#[99,111,110,116,101,120,116]⟩])∧Below w.heap.size w w':=by
 go_enter func303,ntmps303;go_wp2;exact bodyPost_ret (Qao (a:=0) (t:=186) (by kernel_rfl) _ ⟨w.heap.size,0,none⟩ rfl _ _ (QcP _ _ _ _ (by kernel_rfl) (by kernel_rfl) (Qaa (o:=0) (Xa w _) rfl))) rfl ⟨rfl,Qab w _⟩
theorem n277_c(w:World):Calls prog 277 #[] w (QaY w (.iface 186 (.agg #[.string ⟨#[99,111,110,116,101,120,116]⟩]))):=by
 go_enter func277,ntmps277
 go_wp2_with fail
 refine(n303_c _).mono ?_;rintro e w1⟨rfl,hb1⟩;have hs:=hb1.size;have r1:w1.heap[w.heap.size]? =some (.cells #[.nilIface] 299 (0,0)):=(hb1.block _ (by simp)).trans (Xa w _);have hb0:Below w.heap.size w w1:=(Qab w _).trans (hb1.mono (by simp));have R1:=Hi r1;clear r1 hb1
 go_wp2_with fail
 refine(Qar _ _ _).mono ?_;rintro e w2⟨rfl,hb⟩;obtain⟨z1,z2,z3⟩:=Qan hb R1.out;have hE:=Qap (w:=w) (R:=w.heap.size) (v:=.iface 186 (.agg #[.string ⟨#[99,111,110,116,101,120,116]⟩])) (Ext.below hb0) hb (by omega);have HE:=Hi hE;clear hb hE;go_wp2;exact Qaq (R:=w.heap.size) _ 0 (by kernel_rfl) rfl rfl (Qac (o:=0) z3.out _) ⟨rfl,HE.out⟩
end Go.Proofs.Pg
namespace Go.Proofs.Pg
def Sf(us ts:Toks):Prop:=us≠[]∧us <:+ ts
theorem Wf.ne{ts:Toks}(h:Wf ts):ts≠[]:=by cases ts<;>simp_all [Wf]
theorem Wf.refl{ts:Toks}(h:Wf ts):Sf ts ts:=⟨h.ne,List.suffix_refl _⟩
theorem Sf.trans{a b c:Toks}(h:Sf a b)(k:Sf b c):Sf a c:=⟨h.1,h.2.trans k.2⟩
theorem Sf.len{a b:Toks}(h:Sf a b):a.length≤b.length:=h.2.length_le
theorem Wf.suffix:∀{ts us:Toks},Wf ts→us≠[]→us <:+ ts→Wf us:=by
 intro ts
 induction ts with
 | nil=>intro us h;exact absurd h (by simp[Wf])
 | cons t ts ih =>
  intro us h hne hs;rcases List.suffix_cons_iff.1 hs with e | e
  ·subst e;exact h
  ·cases ts with
   | nil=>simp at e;exact absurd e hne
   | cons u r=>exact ih h hne e
theorem Sf.wf{us ts:Toks}(h:Sf us ts)(hw:Wf ts):Wf us:=hw.suffix h.1 h.2
theorem Qam{ts:Toks}(h:Wf ts):Sf (adv ts) ts:=by
 match ts,h with
 | [],h=>exact absurd h (by simp[Wf])
 | [t],h=>exact⟨by simp[adv],List.suffix_refl _⟩
 | t::u::r,h=>exact⟨by simp[adv],List.suffix_cons t (u::r)⟩
theorem Wf.adv{ts:Toks}(h:Wf ts):Wf (adv ts):=(Qam h).wf h
theorem adv_lt{ts:Toks}(h:Wf ts)(hn:ty ts≠0∨tx ts≠[]):(adv ts).length<ts.length:=by
 match ts,h with
 | [],h=>exact absurd h (by simp[Wf])
 | [t],h=>exact absurd hn (by simp[Wf]at h;simp[ty,hd,tx,h])
 | t::u::r,h=>simp[adv]
theorem Qax{ts:Toks}{s:List UInt8}(h:Wf ts)(hs:(tx ts==s)=true)(hne:s≠[]):(adv ts).length<ts.length :=
 adv_lt h (.inr (by rw[beq_iff_eq.1 hs];exact hne))
theorem QbZ{ts:Toks}{k:Int}(h:Wf ts)(hs:(ty ts==k)=true)(hne:k≠0):(adv ts).length<ts.length :=
 adv_lt h (.inl (by rw[beq_iff_eq.1 hs];exact hne))
theorem QaC{s:List UInt8}{ts us:Toks}(h:Wf ts)(he:exact s ts=some us):Sf us ts:=by
 unfold exact at he;split at he
 ·cases he;exact Qam h
 ·cases he
def Sh{α:Type}(m:Toks→Option (α×Toks)):Prop:=∀ts x us,Wf ts→m ts=some (x,us)→Sf us ts∧us.length<ts.length
def Sh0{α:Type}(m:Toks→Option (α×Toks)):Prop:=∀ts x us,Wf ts→m ts=some (x,us)→Sf us ts
theorem Qc0{a b c:Toks}(h:Sf b c)(k:Sf a b)(hl:b.length<c.length):Sf a c∧a.length<c.length:=⟨k.trans h,Nat.lt_of_le_of_lt k.len hl⟩
theorem pathL_sf:∀f r,Sh0 (Qcz f r):=by
 intro f
 induction f with
 | zero=>intro r ts x us h he;cases he
 | succ f ih =>
  intro r ts x us h he;rw[Qcz]at he;split at he
  ·split at he
   ·have:=ih _ _ _ _ h.adv.adv he
    exact this.trans ((Qam h.adv).trans (Qam h))
   ·cases he
  ·cases he;exact h.refl
theorem QcR:Sh path:=by
 intro ts x us h he;rw[path]at he;split at he
 ·rename_i hc
  exact Qc0 (Qam h) (pathL_sf _ _ _ _ _ h.adv he) (QbZ h hc (by decide))
 ·cases he
variable {L:Lex}
theorem entL_sf:∀f r,Sh0 (entL L f r):=by
 intro f
 induction f with
 | zero=>intro r ts x us h he;cases he
 | succ f ih =>
  intro r ts x us h he;rw[entL]at he;split at he
  ·cases he
  ·rename_i vs hv
   have h1:=QaC h hv;have w1:=h1.wf h;split at he
   ·exact(ih _ _ _ _ w1.adv he).trans ((Qam w1).trans h1)
   ·split at he
    ·split at he
     ·cases he
     ·cases he;exact(Qam w1).trans h1
    ·cases he
theorem Qb8:Sh (entity L):=by
 intro ts x us h he;rw[entity]at he;split at he
 ·rename_i hc
  exact Qc0 (Qam h) (entL_sf _ _ _ _ _ h.adv he) (QbZ h hc (by decide))
 ·cases he
variable {E:Toks→Option (Ex×Toks)}
theorem Qg4(hE:Sh E)(close:List UInt8):∀f acc,Sh0 (QaE E close f acc):=by
 intro f
 induction f with
 | zero=>intro r ts x us h he;cases he
 | succ f ih =>
  intro r ts x us h he;rw[QaE]at he;split at he
  ·cases he;exact h.refl
  ·split at he
   ·cases he
   ·rename_i y vs hv
    have h1:=(hE _ _ _ h hv).1;have w1:=h1.wf h;split at he
    ·exact(ih _ _ _ _ w1.adv he).trans ((Qam w1).trans h1)
    ·split at he
     ·cases he;exact h1
     ·cases he
theorem Qdf(hE:Sh E)(close:List UInt8):Sh0 (Qbr E close):=fun ts x us h he=>Qg4 hE close _ _ _ _ _ h he
theorem QdY(hE:Sh E):Sh0 (entry L E):=by
 intro ts x us h he;rw[entry]at he;split at he
 ·cases he
 ·split at he
  ·cases he
  ·rename_i vs hv
   have h1:=QaC h.adv hv;split at he
   ·cases he
   ·rename_i y zs hz
    cases he;exact(hE _ _ _ (h1.wf h.adv) hz).1.trans (h1.trans (Qam h))
theorem recdL_sf(hE:Sh E):∀f acc,Sh0 (Qbz L E f acc):=by
 intro f
 induction f with
 | zero=>intro r ts x us h he;cases he
 | succ f ih =>
  intro r ts x us h he;rw[Qbz]at he;split at he
  ·cases he;exact Qam h
  ·split at he
   ·cases he
   ·rename_i k y vs hv
    have h1:=QdY hE _ _ _ h hv;have w1:=h1.wf h;split at he
    ·cases he
    ·split at he
     ·exact(ih _ _ _ _ w1.adv he).trans ((Qam w1).trans h1)
     ·split at he
      ·cases he;exact(Qam w1).trans h1
      ·cases he
theorem recd_sf(hE:Sh E):Sh0 (recd L E):=fun ts x us h he=>recdL_sf hE _ _ _ _ _ h he
theorem QfX(hE:Sh E):∀f r,Sh0 (Qa1 L E f r):=by
 intro f
 induction f with
 | zero=>intro r ts x us h he;cases he
 | succ f ih =>
  intro r ts x us h he;rw[Qa1]at he;split at he
  ·split at he
   ·exact(ih _ _ _ _ h.adv.adv he).trans ((Qam h.adv).trans (Qam h))
   ·split at he
    ·split at he
     ·cases he
     ·cases he;exact(Qam h.adv).trans (Qam h)
    ·cases he
  ·split at he
   ·split at he
    ·split at he
     ·cases he
     ·rename_i l vs hv
      cases he;have h1:=Qdf hE _ _ _ _ h.adv hv;exact(Qam (h1.wf h.adv)).trans (h1.trans (Qam h))
    ·cases he
   ·cases he
theorem QcS(hE:Sh E):Sh (primary L E):=by
 intro ts x us h he;rw[primary]at he;split at he
 ·rename_i hc
  split at he
  ·cases he
  ·cases he;exact⟨Qam h,QbZ h hc (by decide)⟩
 split at he
 ·rename_i hc
  split at he
  ·cases he
  ·cases he;exact⟨Qam h,QbZ h hc (by decide)⟩
 split at he
 ·rename_i hc
  cases he;exact⟨Qam h,Qax h hc (by decide)⟩
 split at he
 ·rename_i hc
  cases he;exact⟨Qam h,Qax h hc (by decide)⟩
 split at he
 ·rename_i hc
  split at he
  ·exact Qc0 (Qam h) (QfX hE _ _ _ _ _ h.adv he) (QbZ h hc (by decide))
  ·split at he
   ·cases he
   ·cases he;exact⟨Qam h,QbZ h hc (by decide)⟩
 split at he
 ·rename_i hc
  split at he
  ·cases he
  ·rename_i y vs hv
   have h1:=(hE _ _ _ h.adv hv).1;split at he
   ·cases he
   ·rename_i zs hz
    cases he;exact Qc0 (Qam h) ((QaC (h1.wf h.adv) hz).trans h1) (Qax h hc (by decide))
 split at he
 ·rename_i hc
  split at he
  ·cases he
  ·rename_i l vs hv
   cases he;have h1:=Qdf hE _ _ _ _ h.adv hv;exact Qc0 (Qam h) ((Qam (h1.wf h.adv)).trans h1) (Qax h hc (by decide))
 split at he
 ·rename_i hc
  split at he
  ·cases he
  ·rename_i l vs hv
   cases he;exact Qc0 (Qam h) (recd_sf hE _ _ _ h.adv hv) (Qax h hc (by decide))
 cases he
theorem Qdm(hE:Sh E)(lhs:Ex)(ts:Toks)(x:Ex)(us:Toks)(h:Wf ts)(he:access L E lhs ts=some (some (x,us))):Sf us ts∧us.length<ts.length:=by
 rw[access]at he;split at he
 ·rename_i hc
  have hl:=Qax h hc (by decide);split at he
  ·split at he
   ·split at he
    ·cases he
    ·rename_i l vs hv
     have h1:=Qdf hE _ _ _ _ h.adv.adv.adv hv;split at he
     ·cases he
     ·cases he
      exact Qc0 (Qam h) ((Qam (h1.wf h.adv.adv.adv)).trans (h1.trans ((Qam h.adv.adv).trans (Qam h.adv)))) hl
   ·cases he;exact Qc0 (Qam h) (Qam h.adv) hl
  ·cases he
 split at he
 ·rename_i hc
  have hl:=Qax h hc (by decide);split at he
  ·split at he
   ·cases he
   ·split at he
    ·cases he
    ·rename_i vs hv
     cases he;exact Qc0 (Qam h) ((QaC h.adv.adv hv).trans (Qam h.adv)) hl
  ·cases he
 cases he
theorem memL_sf(hE:Sh E):∀f y,Sh0 (memL L E f y):=by
 intro f
 induction f with
 | zero=>intro r ts x us h he;cases he
 | succ f ih =>
  intro r ts x us h he;rw[memL]at he;split at he
  ·cases he
  ·cases he;exact h.refl
  ·rename_i y vs hv
   have h1:=(Qdm hE _ _ _ _ h hv).1;exact(ih _ _ _ _ (h1.wf h) he).trans h1
theorem Qg5(hE:Sh E):Sh (member L E):=by
 intro ts x us h he;rw[member]at he;split at he
 ·cases he
 ·rename_i y vs hv
  have h1:=QcS hE _ _ _ h hv;exact Qc0 h1.1 (memL_sf hE _ _ _ _ _ (h1.1.wf h) he) h1.2
theorem Qg6:∀f acc (ts:Toks),Wf ts→Sf (opsL f acc ts).2 ts:=by
 intro f
 induction f with
 | zero=>intro acc ts h;exact h.refl
 | succ f ih =>
  intro acc ts h;rw[opsL];split
  ·exact(ih _ _ h.adv).trans (Qam h)
  ·split
   ·exact(ih _ _ h.adv).trans (Qam h)
   ·exact h.refl
theorem Qcw(hE:Sh E):Sh (unary L E):=by
 intro ts x us h he;rw[unary]at he;have h0:=Qg6 (ts.length+1) [] ts h;have w0:=h0.wf h;split at he
 ·rename_i hc
  split at he
  ·cases he
  ·cases he
   have:=QbZ w0 hc.2 (by decide);exact⟨(Qam w0).trans h0,Nat.lt_of_lt_of_le this h0.len⟩
 ·split at he
  ·cases he
  ·rename_i y vs hv
   cases he;have h1:=Qg5 hE _ _ _ w0 hv;exact⟨h1.1.trans h0,Nat.lt_of_lt_of_le h1.2 h0.len⟩
theorem multL_sf(hE:Sh E):∀f y,Sh0 (Qcj L E f y):=by
 intro f
 induction f with
 | zero=>intro r ts x us h he;cases he
 | succ f ih =>
  intro r ts x us h he;rw[Qcj]at he;split at he
  ·split at he
   ·cases he
   ·rename_i y vs hv
    have h1:=(Qcw hE _ _ _ h.adv hv).1;exact(ih _ _ _ _ (h1.wf h.adv) he).trans (h1.trans (Qam h))
  ·cases he;exact h.refl
theorem Qca(hE:Sh E):Sh (mult L E):=by
 intro ts x us h he;rw[mult]at he;split at he
 ·cases he
 ·rename_i y vs hv
  have h1:=Qcw hE _ _ _ h hv;exact Qc0 h1.1 (multL_sf hE _ _ _ _ _ (h1.1.wf h) he) h1.2
theorem addL_sf(hE:Sh E):∀f y,Sh0 (addL L E f y):=by
 intro f
 induction f with
 | zero=>intro r ts x us h he;cases he
 | succ f ih =>
  intro r ts x us h he;rw[addL]at he;split at he
  ·split at he
   ·cases he
   ·rename_i y vs hv
    have h1:=(Qca hE _ _ _ h.adv hv).1;exact(ih _ _ _ _ (h1.wf h.adv) he).trans (h1.trans (Qam h))
  ·split at he
   ·split at he
    ·cases he
    ·rename_i y vs hv
     have h1:=(Qca hE _ _ _ h.adv hv).1;exact(ih _ _ _ _ (h1.wf h.adv) he).trans (h1.trans (Qam h))
   ·cases he;exact h.refl
theorem Qer(hE:Sh E):Sh (add L E):=by
 intro ts x us h he;rw[add]at he;split at he
 ·cases he
 ·rename_i y vs hv
  have h1:=Qca hE _ _ _ h hv;exact Qc0 h1.1 (addL_sf hE _ _ _ _ _ (h1.1.wf h) he) h1.2
theorem hasL_sf:∀f y z,Sh0 (hasL f y z):=by
 intro f
 induction f with
 | zero=>intro r z ts x us h he;cases he
 | succ f ih =>
  intro r z ts x us h he;rw[hasL]at he;split at he
  ·split at he
   ·exact(ih _ _ _ _ _ h.adv.adv he).trans ((Qam h.adv).trans (Qam h))
   ·cases he
  ·cases he;exact h.refl
theorem has_sf(lhs:Ex):Sh0 (has L lhs):=by
 intro ts x us h he;rw[has]at he;split at he
 ·exact(hasL_sf _ _ _ _ _ _ h.adv he).trans (Qam h)
 ·split at he
  ·split at he
   ·cases he
   ·cases he;exact Qam h
  ·cases he
theorem like_sf(lhs:Ex):Sh0 (like L lhs):=by
 intro ts x us h he;rw[like]at he;split at he
 ·split at he
  ·cases he
  ·cases he;exact Qam h
 ·cases he
theorem is_sf(hE:Sh E)(lhs:Ex):Sh0 (is L E lhs):=by
 intro ts x us h he;rw[is]at he;split at he
 ·cases he
 ·rename_i p vs hv
  have h1:=(QcR _ _ _ h hv).1;have w1:=h1.wf h;split at he
  ·split at he
   ·cases he
   ·rename_i y zs hz
    cases he;exact((Qer hE _ _ _ w1.adv hz).1).trans ((Qam w1).trans h1)
  ·cases he;exact h1
theorem Qbu(hE:Sh E):Sh (relation L E):=by
 intro ts x us h he;rw[relation]at he;split at he
 ·cases he
 ·rename_i y vs hv
  have h1:=Qer hE _ _ _ h hv;have w1:=h1.1.wf h;refine Qc0 h1.1 ?_ h1.2;split at he
  ·exact(has_sf _ _ _ _ w1.adv he).trans (Qam w1)
  split at he
  ·exact(like_sf _ _ _ _ w1.adv he).trans (Qam w1)
  split at he
  ·exact(is_sf hE _ _ _ _ w1.adv he).trans (Qam w1)
  split at he
  ·cases he;exact w1.refl
  ·split at he
   ·cases he
   ·rename_i z zs hz
    cases he;exact((Qer hE _ _ _ w1.adv hz).1).trans (Qam w1)
theorem andL_sf(hE:Sh E):∀f y,Sh0 (andL L E f y):=by
 intro f
 induction f with
 | zero=>intro r ts x us h he;cases he
 | succ f ih =>
  intro r ts x us h he;rw[andL]at he;split at he
  ·split at he
   ·cases he
   ·rename_i y vs hv
    have h1:=(Qbu hE _ _ _ h.adv hv).1;exact(ih _ _ _ _ (h1.wf h.adv) he).trans (h1.trans (Qam h))
  ·cases he;exact h.refl
theorem QdJ(hE:Sh E):Sh (and L E):=by
 intro ts x us h he;rw[and]at he;split at he
 ·cases he
 ·rename_i y vs hv
  have h1:=Qbu hE _ _ _ h hv;exact Qc0 h1.1 (andL_sf hE _ _ _ _ _ (h1.1.wf h) he) h1.2
theorem orL_sf(hE:Sh E):∀f y,Sh0 (orL L E f y):=by
 intro f
 induction f with
 | zero=>intro r ts x us h he;cases he
 | succ f ih =>
  intro r ts x us h he;rw[orL]at he;split at he
  ·split at he
   ·cases he
   ·rename_i y vs hv
    have h1:=(QdJ hE _ _ _ h.adv hv).1;exact(ih _ _ _ _ (h1.wf h.adv) he).trans (h1.trans (Qam h))
  ·cases he;exact h.refl
theorem or_sh(hE:Sh E):Sh (or L E):=by
 intro ts x us h he;rw[or]at he;split at he
 ·cases he
 ·rename_i y vs hv
  have h1:=QdJ hE _ _ _ h hv;exact Qc0 h1.1 (orL_sf hE _ _ _ _ _ (h1.1.wf h) he) h1.2
theorem exprB_sh(hE:Sh E):Sh (QbH L E):=by
 intro ts x us h he;rw[QbH]at he;split at he
 ·rename_i hc
  refine Qc0 (Qam h) ?_ (Qax h hc (by decide));split at he
  ·cases he
  ·rename_i y v1 hv
   have h1:=(hE _ _ _ h.adv hv).1;split at he
   ·cases he
   ·rename_i v2 hv2
    have h2:=QaC (h1.wf h.adv) hv2;have w2:=h2.wf (h1.wf h.adv);split at he
    ·cases he
    ·rename_i z v3 hv3
     have h3:=(hE _ _ _ w2 hv3).1;split at he
     ·cases he
     ·rename_i v4 hv4
      have h4:=QaC (h3.wf w2) hv4;have w4:=h4.wf (h3.wf w2);split at he
      ·cases he
      ·rename_i q v5 hv5
       cases he;exact(hE _ _ _ w4 hv5).1.trans (h4.trans (h3.trans (h2.trans h1)))
 ·exact or_sh hE _ _ _ h he
theorem QdZ:∀f,Sh (expr L f):=by
 intro f
 induction f with
 | zero=>intro ts x us h he;cases he
 | succ f ih=>exact exprB_sh ih
end Go.Proofs.Pg
namespace Go.Proofs
open Go Go.Shelf Go.RowKit Go.Proofs.Tryz
def Tryz.lays197_ren:Go.Shelf.Ren:=⟨fun | 197=>119 | 260=>155 | n=>n,fun | 46=>162 | 105=>306 | 119=>158 | 138=>160 | 139=>161 | n=>n,fun | 3=>1 | 4=>2 | n=>n⟩
theorem Tryz.lays197:Go.Proofs.Lays.n197 prog Tryz.lays197_ren:=⟨by kernel_rfl,func119.trans (congrArg some (by kernel_rfl)),func155.trans (congrArg some (by kernel_rfl)),underlying0,isAgg0,sizeOf0,zeroValue0,underlying3,isAgg3,sizeOf3,zeroValue3,underlying4,isAgg4,sizeOf4,zeroValue4,underlying5,isAgg5,sizeOf5,zeroValue5,underlying9,isAgg9,sizeOf9,zeroValue9,underlying21,isAgg21,sizeOf21,zeroValue21,underlying162,isAgg162,sizeOf162,zeroValue162,underlying306,isAgg306,sizeOf306,zeroValue306,underlying158,isAgg158,sizeOf158,underlying160,isAgg160,sizeOf160,zeroValue160,underlying161,isAgg161,sizeOf161,zeroValue161,by kernel_rfl,by kernel_rfl⟩
theorem Tryz.utf8_DecodeRuneInString(s:ByteArray)(w:World)(hT:Lib.Utf8Tabs 1 2 w) :
  Calls prog 119 #[.string s] w fun e w'=>e=.returned (.tuple #[.int .i32 (Lib.decodeGo s).1,.int .i64 (Lib.decodeGo s).2])∧Below w.heap.size w w':=Any.utf8_DecodeRuneInString Tryz.lays197 s w hT
end Go.Proofs
