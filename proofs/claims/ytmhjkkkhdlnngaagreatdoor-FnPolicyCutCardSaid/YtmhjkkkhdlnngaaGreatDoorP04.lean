/- FnPolicyCut, part 4. -/
import Derived.Test.YtmhjkkkhdlnngaaGreatDoorP00
import Derived.Test.YtmhjkkkhdlnngaaGreatDoorP01
import Derived.Test.YtmhjkkkhdlnngaaGreatDoorProg
import Derived.Shelf.Unicode.DecodeSlow
import Derived.LoopTactic
set_option linter.all false
set_option maxRecDepth 100000
set_option maxHeartbeats 0
namespace Go.Proofs.Pg
open Go.RowKit Go.Proofs.Tryz
attribute [local go_sem] Oper.semAt_some
abbrev Tok.val(t:Tok):Value:=.agg #[.int .i64 t.ty,.string t.fn,.int .i64 t.off,.int .i64 t.ln,.int .i64 t.col,.string t.tx]
attribute [go_sem] Tok.val
@[go_sem] theorem field122_2(a c d e:Int)(b f:ByteArray)(w:World):(Instr.field 122 (.agg #[.int .i64 a,.string b,.int .i64 c,.int .i64 d,.int .i64 e,.string f]) 2).run prog w=.ok (.string f) w:=by kernel_rfl
@[go_sem] theorem field122_1(a c d e:Int)(b f:ByteArray)(w:World):(Instr.field 122 (.agg #[.int .i64 a,.string b,.int .i64 c,.int .i64 d,.int .i64 e,.string f]) 1).run prog w=.ok (.agg #[.string b,.int .i64 c,.int .i64 d,.int .i64 e]) w:=by kernel_rfl
@[go_sem] theorem field122_0(a c d e:Int)(b f:ByteArray)(w:World):(Instr.field 122 (.agg #[.int .i64 a,.string b,.int .i64 c,.int .i64 d,.int .i64 e,.string f]) 0).run prog w=.ok (.int .i64 a) w:=by kernel_rfl
structure TokAt(w:World)(b o:Nat)(t:Tok):Prop where
 c0:w.cell? ⟨b,o,none⟩=some (.int .i64 t.ty)
 c1:w.cell? ⟨b,o+1,none⟩=some (.string t.fn)
 c2:w.cell? ⟨b,o+2,none⟩=some (.int .i64 t.off)
 c3:w.cell? ⟨b,o+3,none⟩=some (.int .i64 t.ln)
 c4:w.cell? ⟨b,o+4,none⟩=some (.int .i64 t.col)
 c5:w.cell? ⟨b,o+5,none⟩=some (.string t.tx)
 sz:t.tx.size≤1000000
theorem TokAt.ext{S:Nat→Prop}{w w':World}{b o:Nat}{t:Tok}(h:TokAt w b o t)(he:Ext S w w')(hs:¬S b):TokAt w' b o t :=
 ⟨he.cell hs h.c0,he.cell hs h.c1,he.cell hs h.c2,he.cell hs h.c3,he.cell hs h.c4,he.cell hs h.c5,h.sz⟩
structure Glob(w:World):Prop where
 tabs:Lib.Utf8Tabs 1 2 w
 eof:∃p,w.cell? ⟨0,0,none⟩=some (.iface 346 p)
 e5:∃T p,w.cell? ⟨5,0,none⟩=some (.iface T p)
 e6:∃T p,w.cell? ⟨6,0,none⟩=some (.iface T p)
theorem Glob.same{w w':World}(h:Glob w)(he:∀b,b<15→w'.heap[b]? =w.heap[b]?):Glob w':=by
 have hc:∀b o,b<15→w'.cell? ⟨b,o,none⟩=w.cell? ⟨b,o,none⟩:=fun b o hb=>QdX (p:=⟨b,o,none⟩) (he b hb)
 refine⟨⟨fun c hc'=>?_,fun i hi=>?_⟩,?_,?_,?_⟩
 ·rw[hc 1 c (by decide)];exact h.tabs.1 c hc'
 ·rw[hc 2 _ (by decide),hc 2 _ (by decide)];exact h.tabs.2 i hi
 ·rw[hc 0 0 (by decide)];exact h.eof
 ·rw[hc 5 0 (by decide)];exact h.e5
 ·rw[hc 6 0 (by decide)];exact h.e6
theorem Glob.ext{S:Nat→Prop}{w w':World}(h:Glob w)(he:Ext S w w')(hs:∀d,S d→15≤d)(hz:15≤w.heap.size):Glob w' :=
 h.same fun b hb=>he.block b (by omega) (fun e=>by have:=hs b e;omega)
def EIs(base:Nat)(w:World)(T:TypeId)(v:Value):Prop:=T≠346∨∃b,v=.pointer (some ⟨b,0,none⟩)∧base≤b∧OkB w b
abbrev EVal(base:Nat)(w:World)(T:TypeId):={v:Value // EIs base w T v}
theorem EIs.mono{b b':Nat}{w:World}{T:TypeId}{v:Value}(h:EIs b w T v)(hb:b'≤b):EIs b' w T v:=h.imp id fun⟨k,e,hk,ho⟩=>⟨k,e,Xe hb hk,ho⟩
theorem EIs.ok{b:Nat}{w w':World}{T:TypeId}{v:Value}(h:EIs b w T v)(hk:∀d,OkB w d→OkB w' d):EIs b w' T v:=h.imp id fun⟨k,e,hb,ho⟩=>⟨k,e,hb,hk k ho⟩
abbrev EVal.to{b:Nat}{w w':World}{T:TypeId}(v:EVal b w T)(hk:∀d,OkB w d→OkB w' d):EVal b w' T:=⟨v.1,v.2.ok hk⟩
structure PS(w:World)(bp base:Nat)(ts:List Tok):Prop where
 ex:∃bt off n cap k,bp≠bt∧w.heap[bp]? =some (.cells #[.slice (some ⟨bt,off,none⟩) n cap,.int .i64 (k:Nat)] 142 (0,0))∧bt<w.heap.size∧k+ts.length=n∧n≤1000000∧ts≠[] ∧
  ∀i t,ts[i]? =some t→TokAt w bt (off+(k+i)*6) t
 lo:∀bt off n cap v,w.heap[bp]? =some (.cells #[.slice (some ⟨bt,off,none⟩) n cap,v] 142 (0,0))→bt<base
 hbp:bp<base
 g:Glob w
 h15:15≤bp
 hbs:base≤w.heap.size
theorem PS.of{w:World}{bp base:Nat}{ts:List Tok}{bt off n cap k:Nat}(a:bp≠bt)(hb:w.heap[bp]? =some (.cells #[.slice (some ⟨bt,off,none⟩) n cap,.int .i64 (k:Nat)] 142 (0,0)))(hlt:bt<w.heap.size)(d:k+ts.length=n)(hn:n≤1000000)(f:ts≠[])
  (g:∀i t,ts[i]? =some t→TokAt w bt (off+(k+i)*6) t)(hlo:bt<base)(hbp:bp<base)(hg:Glob w)(h15:15≤bp)(hbs:base≤w.heap.size):PS w bp base ts :=
 ⟨⟨bt,off,n,cap,k,a,hb,hlt,d,hn,f,g⟩,fun bt' off' n' cap' v' h'=>(by rw[hb]at h';cases h';exact hlo),hbp,hg,h15,hbs⟩
theorem PS.lt{w:World}{bp base:Nat}{ts:List Tok}(h:PS w bp base ts):bp<w.heap.size:=by
 obtain⟨bt,off,n,cap,k,_,h,_⟩:=h.ex;exact(Array.getElem?_eq_some_iff.1 h).1
theorem PS.sz{w:World}{bp base:Nat}{t:Tok}{ts:List Tok}(h:PS w bp base (t::ts)):t.tx.size≤1000000:=by
 obtain⟨bt,off,n,cap,k,a,b,c,d,e,f,g⟩:=h.ex;exact(g 0 t rfl).sz
theorem PS.len{w:World}{bp base:Nat}{ts:List Tok}(h:PS w bp base ts):ts.length≤1000000:=by
 obtain⟨bt,off,n,cap,k,a,b,c,d,e,f,g⟩:=h.ex;omega
theorem PS.ext{S:Nat→Prop}{w w':World}{bp base:Nat}{ts:List Tok}(h:PS w bp base ts)(he:Ext S w w')(hs:∀d,S d→base≤d):PS w' bp base ts:=by
 obtain⟨bt,off,n,cap,k,a,b,c,d,e,f,g⟩:=h.ex;have hlo:=h.lo _ _ _ _ _ b;have hbp:=h.hbp;have hbt:¬S bt:=fun e=>by have:=hs _ e;omega
 have hb:w'.heap[bp]? =_:=(he.block bp (Array.getElem?_eq_some_iff.1 b).1 (fun e=>by have:=hs _ e;omega)).trans b;exact⟨⟨bt,off,n,cap,k,a,hb,Nat.lt_of_lt_of_le c he.size,d,e,f,fun i t hi=>(g i t hi).ext he hbt⟩,fun bt' off' n' cap' v' h'=>(by rw[hb]at h';cases h';exact hlo),h.hbp,h.g.ext he (fun d hd=>by have:=hs d hd;have:=h.h15;omega) (by have:=(Array.getElem?_eq_some_iff.1 b).1;have:=h.h15;omega),h.h15,Xe h.hbs he.size⟩
theorem PS.below{w w':World}{bp base:Nat}{ts:List Tok}(h:PS w bp base ts)(he:Below w.heap.size w w'):PS w' bp base ts :=
 h.ext (S:=fun _=>False) (.below he) (fun _ h=>h.elim)
theorem PS.set{w:World}{bp base d o:Nat}{ts:List Tok}(h:PS w bp base ts)(hd:base≤d)(u:Value):PS (w.setCell ⟨d,o,none⟩ u) bp base ts :=
 h.ext (S:=(·=d)) ((Ext.refl (·=d) w).set (p:=⟨d,o,none⟩) (.inl rfl) u) (by rintro e rfl;exact hd)
theorem Qa7{w:World}{bp base:Nat}{t:Tok}{ts:List Tok}(hp:PS w bp base (t::ts)) :
  Calls prog 53 #[.pointer (some ⟨bp,0,none⟩)] w fun e w'=>e=.returned t.val∧Below w.heap.size w w':=by
 obtain⟨bt,off,n,cap,k,a,b,hbt,d,hn,f,g⟩:=hp.ex;have hbp:=hp.lt;obtain⟨c0,c1,c2,c3,c4,c5,_⟩:=g 0 t rfl;obtain⟨p0,p1⟩:=Cl2 b rfl rfl;obtain⟨ty,fn,ofs,ln,col,tx⟩:=t;simp only[Nat.add_zero]at c0 c1 c2 c3 c4 c5;have hk:k<n:=by simp at d;omega
 clear a b d g f hp;go_enter func53,ntmps53
 go_wp2_with fail
 refine QaK 10 (by kernel_rfl) (by kernel_rfl) ?_;simp only[List.take_succ_cons,List.take_zero,List.drop_succ_cons,List.drop_zero]
 repeat still_step
 refine wpStill_nil ?_;go_wp2;refine bodyPost_ret (Qao (a:=2) (t:=122) (by kernel_rfl) _ ⟨w.heap.size,0,none⟩ rfl _ _ (QfW _ _ _ _ _ _ _ _ _ (by kernel_rfl) (by kernel_rfl) ?_ ?_ ?_ ?_ ?_ ?_)) rfl ⟨rfl,?_⟩
 ·simp
 ·simp
 ·simp
 ·simp
 ·simp
 ·simp
 ·exact(Qab w _).drew
end Go.Proofs.Pg
namespace Go.Proofs.Pg
open Go.RowKit Go.Lib Go.Proofs.Tryz
attribute [local go_sem] Oper.semAt_some
def dec(l:List UInt8):Nat×Nat:=if l.length=0 then(65533,0)else decodeN l.length (l.getD 0 0).toNat (l.getD 1 0).toNat (l.getD 2 0).toNat (l.getD 3 0).toNat
def BytesAt(w:World)(b off:Nat)(l:List UInt8):Prop:=∀j,j<l.length→w.cell? ⟨b,off+j,none⟩=some (.int .u8 ((l.getD j 0).toNat:Int))
theorem slow182(l:List UInt8)(b off cap:Nat)(w:World)(hT:Utf8Tabs 1 2 w)(hc:BytesAt w b off l)(hb:b<w.heap.size) :
  Calls prog 182 #[.slice (some ⟨b,off,none⟩) l.length cap] w fun e w'=>e=.returned (.tuple #[.int .i32 (dec l).1,.int .i64 (dec l).2])∧Below w.heap.size w w':=by
 obtain⟨x0,hx0⟩:∃x0,(l.getD 0 0)=x0:=⟨_,rfl⟩
 obtain⟨x1,hx1⟩:∃x1,(l.getD 1 0)=x1:=⟨_,rfl⟩
 obtain⟨x2,hx2⟩:∃x2,(l.getD 2 0)=x2:=⟨_,rfl⟩
 obtain⟨x3,hx3⟩:∃x3,(l.getD 3 0)=x3:=⟨_,rfl⟩
 have c0:0<l.length→w.cell? ⟨b,off,none⟩=some (.int .u8 (x0.toNat:Int)):=fun h=>hx0▸hc 0 h
 have c1:1<l.length→w.cell? ⟨b,off+1,none⟩=some (.int .u8 (x1.toNat:Int)):=fun h=>hx1▸hc 1 h
 have c2:2<l.length→w.cell? ⟨b,off+2,none⟩=some (.int .u8 (x2.toNat:Int)):=fun h=>hx2▸hc 2 h
 have c3:3<l.length→w.cell? ⟨b,off+3,none⟩=some (.int .u8 (x3.toNat:Int)):=fun h=>hx3▸hc 3 h
 have l0:=x0.toNat_lt;have l1:=x1.toNat_lt;have l2:=x2.toNat_lt;have l3:=x3.toNat_lt;unfold dec;rw[hx0,hx1,hx2,hx3];generalize l.length=n at *;clear hc hx0 hx1 hx2 hx3;by_cases h0:n=0
 ·have hz:(n:Int)<1:=by omega
  simp only[h0,if_true];subst h0;go_enter func182,ntmps182;go_wp2
  go_ret2
  exact⟨rfl,Below.refl _ _⟩
 ·have hz0:(0:Int)<(n:Int):=by omega
  have hz0':¬((n:Int)<1):=by omega
  have hz0'':0<n:=by omega
  simp only[h0,if_false];have d0:=c0 hz0'';have hc0:=hT.1 x0.toNat (by omega);have hres:firstT x0.toNat<240→decodeN n x0.toNat x1.toNat x2.toNat x3.toNat=slowN n x0.toNat x1.toNat x2.toNat x3.toNat (firstT x0.toNat%8) (accLo (firstT x0.toNat / 16)) (accHi (firstT x0.toNat / 16)) :=
   fun h=>(Lib.slow_eq _ _ _ _ _ (by omega) (by omega) (by omega) (by omega) h).symm
  rcases Lib.firstT_cases x0.toNat with hX | hX | hX | hX | hX | hX | hX | hX | hX
  ·rw[Lib.ascii_eq _ _ _ _ _ hX]
   rw[hX]at hc0;clear hres hT hX h0 c0 c1 c2 c3;go_enter func182,ntmps182;go_wp2;rw[Utf8W.mask240,Utf8W.keep_byte ⟨x0.toNat,l0⟩]
   go_ret2
   exact⟨rfl,Below.refl _ _⟩
  ·rw[Lib.bad_eq _ _ _ _ _ (by omega) hX]
   rw[hX]at hc0;clear hres hT hX h0 c0 c1 c2 c3;go_enter func182,ntmps182;go_wp2;rw[Utf8W.mask241,Utf8W.drop_byte ⟨x0.toNat,l0⟩]
   go_ret2
   exact⟨rfl,Below.refl _ _⟩
  all_goals replace hres:=hres (by omega)
  ·
   rw[hX]at hc0 hres;have ha0:=(hT.2 0 (by omega)).1;have ha1:=(hT.2 0 (by omega)).2;simp only[accLo,accHi,Nat.reduceMul,Nat.reduceAdd,Nat.reduceEqDiff,if_true,if_false,Nat.reduceMod,Nat.reduceDiv]at ha0 ha1 hres;rw[hres];clear hres hT hX h0 c0;by_cases hn:n<2
   ·have hnz:(n:Int)<2:=by omega
    clear c1 c2 c3;go_enter func182,ntmps182;go_wp2
    all_goals(go_ret2;refine⟨?_,(Below.refl _ _).alloc (Xb _) _⟩;utf8_leaf)
   ·have hnz:¬(n:Int)<2:=by omega
    have hz1:(1:Int)<(n:Int):=by omega
    have hy1:1<n:=by omega
    have d1:=c1 hy1;clear c1 c2 c3;go_enter func182,ntmps182;go_wp2
    all_goals(go_ret2;refine⟨?_,(Below.refl _ _).alloc (Xb _) _⟩;utf8_leaf)
  ·
   rw[hX]at hc0 hres;have ha0:=(hT.2 1 (by omega)).1;have ha1:=(hT.2 1 (by omega)).2;simp only[accLo,accHi,Nat.reduceMul,Nat.reduceAdd,Nat.reduceEqDiff,if_true,if_false,Nat.reduceMod,Nat.reduceDiv]at ha0 ha1 hres;rw[hres];clear hres hT hX h0 c0;by_cases hn:n<3
   ·have hnz:(n:Int)<3:=by omega
    clear c1 c2 c3;go_enter func182,ntmps182;go_wp2
    all_goals(go_ret2;refine⟨?_,(Below.refl _ _).alloc (Xb _) _⟩;utf8_leaf)
   ·have hnz:¬(n:Int)<3:=by omega
    have hz1:(1:Int)<(n:Int):=by omega
    have hy1:1<n:=by omega
    have d1:=c1 hy1;have hz2:(2:Int)<(n:Int):=by omega
    have hy2:2<n:=by omega
    have d2:=c2 hy2;clear c1 c2 c3;go_enter func182,ntmps182;go_wp2
    all_goals(go_ret2;refine⟨?_,(Below.refl _ _).alloc (Xb _) _⟩;utf8_leaf)
  ·
   rw[hX]at hc0 hres;have ha0:=(hT.2 0 (by omega)).1;have ha1:=(hT.2 0 (by omega)).2;simp only[accLo,accHi,Nat.reduceMul,Nat.reduceAdd,Nat.reduceEqDiff,if_true,if_false,Nat.reduceMod,Nat.reduceDiv]at ha0 ha1 hres;rw[hres];clear hres hT hX h0 c0;by_cases hn:n<3
   ·have hnz:(n:Int)<3:=by omega
    clear c1 c2 c3;go_enter func182,ntmps182;go_wp2
    all_goals(go_ret2;refine⟨?_,(Below.refl _ _).alloc (Xb _) _⟩;utf8_leaf)
   ·have hnz:¬(n:Int)<3:=by omega
    have hz1:(1:Int)<(n:Int):=by omega
    have hy1:1<n:=by omega
    have d1:=c1 hy1;have hz2:(2:Int)<(n:Int):=by omega
    have hy2:2<n:=by omega
    have d2:=c2 hy2;clear c1 c2 c3;go_enter func182,ntmps182;go_wp2
    all_goals(go_ret2;refine⟨?_,(Below.refl _ _).alloc (Xb _) _⟩;utf8_leaf)
  ·
   rw[hX]at hc0 hres;have ha0:=(hT.2 2 (by omega)).1;have ha1:=(hT.2 2 (by omega)).2;simp only[accLo,accHi,Nat.reduceMul,Nat.reduceAdd,Nat.reduceEqDiff,if_true,if_false,Nat.reduceMod,Nat.reduceDiv]at ha0 ha1 hres;rw[hres];clear hres hT hX h0 c0;by_cases hn:n<3
   ·have hnz:(n:Int)<3:=by omega
    clear c1 c2 c3;go_enter func182,ntmps182;go_wp2
    all_goals(go_ret2;refine⟨?_,(Below.refl _ _).alloc (Xb _) _⟩;utf8_leaf)
   ·have hnz:¬(n:Int)<3:=by omega
    have hz1:(1:Int)<(n:Int):=by omega
    have hy1:1<n:=by omega
    have d1:=c1 hy1;have hz2:(2:Int)<(n:Int):=by omega
    have hy2:2<n:=by omega
    have d2:=c2 hy2;clear c1 c2 c3;go_enter func182,ntmps182;go_wp2
    all_goals(go_ret2;refine⟨?_,(Below.refl _ _).alloc (Xb _) _⟩;utf8_leaf)
  ·
   rw[hX]at hc0 hres;have ha0:=(hT.2 3 (by omega)).1;have ha1:=(hT.2 3 (by omega)).2;simp only[accLo,accHi,Nat.reduceMul,Nat.reduceAdd,Nat.reduceEqDiff,if_true,if_false,Nat.reduceMod,Nat.reduceDiv]at ha0 ha1 hres;rw[hres];clear hres hT hX h0 c0;by_cases hn:n<4
   ·have hnz:(n:Int)<4:=by omega
    clear c1 c2 c3;go_enter func182,ntmps182;go_wp2
    all_goals(go_ret2;refine⟨?_,(Below.refl _ _).alloc (Xb _) _⟩;utf8_leaf)
   ·have hnz:¬(n:Int)<4:=by omega
    have hz1:(1:Int)<(n:Int):=by omega
    have hy1:1<n:=by omega
    have d1:=c1 hy1;have hz2:(2:Int)<(n:Int):=by omega
    have hy2:2<n:=by omega
    have d2:=c2 hy2;have hz3:(3:Int)<(n:Int):=by omega
    have hy3:3<n:=by omega
    have d3:=c3 hy3;clear c1 c2 c3;go_enter func182,ntmps182;go_wp2
    all_goals(go_ret2;refine⟨?_,(Below.refl _ _).alloc (Xb _) _⟩;utf8_leaf)
  ·
   rw[hX]at hc0 hres;have ha0:=(hT.2 0 (by omega)).1;have ha1:=(hT.2 0 (by omega)).2;simp only[accLo,accHi,Nat.reduceMul,Nat.reduceAdd,Nat.reduceEqDiff,if_true,if_false,Nat.reduceMod,Nat.reduceDiv]at ha0 ha1 hres;rw[hres];clear hres hT hX h0 c0;by_cases hn:n<4
   ·have hnz:(n:Int)<4:=by omega
    clear c1 c2 c3;go_enter func182,ntmps182;go_wp2
    all_goals(go_ret2;refine⟨?_,(Below.refl _ _).alloc (Xb _) _⟩;utf8_leaf)
   ·have hnz:¬(n:Int)<4:=by omega
    have hz1:(1:Int)<(n:Int):=by omega
    have hy1:1<n:=by omega
    have d1:=c1 hy1;have hz2:(2:Int)<(n:Int):=by omega
    have hy2:2<n:=by omega
    have d2:=c2 hy2;have hz3:(3:Int)<(n:Int):=by omega
    have hy3:3<n:=by omega
    have d3:=c3 hy3;clear c1 c2 c3;go_enter func182,ntmps182;go_wp2
    all_goals(go_ret2;refine⟨?_,(Below.refl _ _).alloc (Xb _) _⟩;utf8_leaf)
  ·
   rw[hX]at hc0 hres;have ha0:=(hT.2 4 (by omega)).1;have ha1:=(hT.2 4 (by omega)).2;simp only[accLo,accHi,Nat.reduceMul,Nat.reduceAdd,Nat.reduceEqDiff,if_true,if_false,Nat.reduceMod,Nat.reduceDiv]at ha0 ha1 hres;rw[hres];clear hres hT hX h0 c0;by_cases hn:n<4
   ·have hnz:(n:Int)<4:=by omega
    clear c1 c2 c3;go_enter func182,ntmps182;go_wp2
    all_goals(go_ret2;refine⟨?_,(Below.refl _ _).alloc (Xb _) _⟩;utf8_leaf)
   ·have hnz:¬(n:Int)<4:=by omega
    have hz1:(1:Int)<(n:Int):=by omega
    have hy1:1<n:=by omega
    have d1:=c1 hy1;have hz2:(2:Int)<(n:Int):=by omega
    have hy2:2<n:=by omega
    have d2:=c2 hy2;have hz3:(3:Int)<(n:Int):=by omega
    have hy3:3<n:=by omega
    have d3:=c3 hy3;clear c1 c2 c3;go_enter func182,ntmps182;go_wp2
    all_goals(go_ret2;refine⟨?_,(Below.refl _ _).alloc (Xb _) _⟩;utf8_leaf)
theorem Qau{B:Nat}{a w:World}(h:Below B a w)(n:Nat):Below B a (w.drewN n):=⟨h.os,h.tape,h.output,h.size,h.block⟩
theorem Qc2{n m x0 x1 x2 x3 y1 y2 y3:Nat}(h1:1≤n)(hm:n≤m)(l1:x1<256)(l2:x2<256)(l3:x3<256)(k1:y1<256)(k2:y2<256)(k3:y3<256)
  (e1:1<n→y1=x1)(e2:2<n→y2=x2)(e3:3<n→y3=x3)(hs:firstT x0%8≤n)(hx:x0<256):decodeN m x0 y1 y2 y3=decodeN n x0 x1 x2 x3:=by
 rcases Lib.firstT_cases x0 with hX | hX | hX | hX | hX | hX | hX | hX | hX
 ·rw[Lib.ascii_eq _ _ _ _ _ hX,Lib.ascii_eq _ _ _ _ _ hX]
 ·rw[Lib.bad_eq _ _ _ _ _ (by omega) hX,Lib.bad_eq _ _ _ _ _ (by omega) hX]
 all_goals
  rw[hX]at hs;rw[←Lib.slow_eq m x0 y1 y2 y3 (by omega) (by omega) (by omega) (by omega) (by omega),←Lib.slow_eq n x0 x1 x2 x3 (by omega) (by omega) (by omega) (by omega) (by omega)];rw[hX];have hh1:=e1 (by omega);subst hh1
  try (have hh2:=e2 (by omega);subst hh2)
  try (have hh3:=e3 (by omega);subst hh3)
  unfold slowN;simp only[accLo,accHi,Nat.reduceMul,Nat.reduceAdd,Nat.reduceEqDiff,if_true,if_false,Nat.reduceMod,Nat.reduceDiv]
  repeat' split
  all_goals first
   | rfl
   | (exfalso;omega)
theorem Qda{n x0 x1 x2 x3:Nat}(h:1≤n)(l1:x1<256)(l2:x2<256)(l3:x3<256)(hX:firstT x0<240)(hb:x1<accLo (firstT x0 / 16)∨accHi (firstT x0 / 16)<x1):decodeN n x0 x1 x2 x3=(65533,1):=by
 rw[←Lib.slow_eq n x0 x1 x2 x3 h l1 l2 l3 hX];unfold slowN;rw[if_pos hb];split<;>rfl
theorem Qdb{n x0 x1 x2 x3:Nat}(h:1≤n)(l1:x1<256)(l2:x2<256)(l3:x3<256)(hX:firstT x0<240)(hs:2<firstT x0%8)(hb:x2<128∨191<x2):decodeN n x0 x1 x2 x3=(65533,1):=by
 rw[←Lib.slow_eq n x0 x1 x2 x3 h l1 l2 l3 hX];unfold slowN;by_cases hs2:firstT x0%8≤2
 ·exact absurd hs (by omega)
 rw[if_pos hb,if_neg hs2];split
 ·rfl
 ·split<;>rfl
def Qhb(n x0 x1 x2 x3:Nat)(e:Ending):Prop:=∃r:Bool,e=.returned (.bool r)∧(r=true→∀m y1 y2 y3,n≤m→y1<256→y2<256→y3<256→(1<n→y1=x1)→(2<n→y2=x2)→(3<n→y3=x3)→decodeN m x0 y1 y2 y3=decodeN n x0 x1 x2 x3)
theorem full158(l:List UInt8)(b off cap:Nat)(w:World)(hT:Utf8Tabs 1 2 w)(hc:BytesAt w b off l)(hb:b<w.heap.size)(hz:l.length≠0) :
  Calls prog 158 #[.slice (some ⟨b,off,none⟩) l.length cap] w fun e w'=>Qhb l.length (l.getD 0 0).toNat (l.getD 1 0).toNat (l.getD 2 0).toNat (l.getD 3 0).toNat e∧Below w.heap.size w w':=by
 obtain⟨x0,hx0⟩:∃x0,(l.getD 0 0)=x0:=⟨_,rfl⟩
 obtain⟨x1,hx1⟩:∃x1,(l.getD 1 0)=x1:=⟨_,rfl⟩
 obtain⟨x2,hx2⟩:∃x2,(l.getD 2 0)=x2:=⟨_,rfl⟩
 obtain⟨x3,hx3⟩:∃x3,(l.getD 3 0)=x3:=⟨_,rfl⟩
 have c0:0<l.length→w.cell? ⟨b,off,none⟩=some (.int .u8 (x0.toNat:Int)):=fun h=>hx0▸hc 0 h
 have c1:1<l.length→w.cell? ⟨b,off+1,none⟩=some (.int .u8 (x1.toNat:Int)):=fun h=>hx1▸hc 1 h
 have c2:2<l.length→w.cell? ⟨b,off+2,none⟩=some (.int .u8 (x2.toNat:Int)):=fun h=>hx2▸hc 2 h
 have c3:3<l.length→w.cell? ⟨b,off+3,none⟩=some (.int .u8 (x3.toNat:Int)):=fun h=>hx3▸hc 3 h
 have l0:=x0.toNat_lt;have l1:=x1.toNat_lt;have l2:=x2.toNat_lt;have l3:=x3.toNat_lt;rw[hx0,hx1,hx2,hx3];generalize l.length=n at *;clear hc hx0 hx1 hx2 hx3;have hz0'':0<n:=by omega
 have hzz:((n:Int)==0)=false:=by simp;omega
 have d0:=c0 hz0'';have hc0:=hT.1 x0.toNat (by omega);have hst:firstT x0.toNat%8≤n→∀e,e=Ending.returned (.bool true)→Qhb n x0.toNat x1.toNat x2.toNat x3.toNat e:=fun hs e he=>⟨true,he,fun _ m y1 y2 y3 hm k1 k2 k3 e1 e2 e3=>Qc2 (by omega) hm (by omega) (by omega) (by omega) k1 k2 k3 e1 e2 e3 hs (by omega)⟩
 have hno:∀e,e=Ending.returned (.bool false)→Qhb n x0.toNat x1.toNat x2.toNat x3.toNat e:=fun e he=>⟨false,he,fun h=>by cases h⟩
 have hb1:1<n→firstT x0.toNat<240→(x1.toNat<accLo (firstT x0.toNat / 16)∨accHi (firstT x0.toNat / 16)<x1.toNat)→∀e,e=Ending.returned (.bool true)→Qhb n x0.toNat x1.toNat x2.toNat x3.toNat e:=fun h1 hX hbad e he=>⟨true,he,fun _ m y1 y2 y3 hm k1 k2 k3 e1 e2 e3=>by
  rw[Qda (n:=n) (by omega) (by omega) (by omega) (by omega) hX hbad,e1 h1];exact Qda (by omega) (by omega) (by omega) (by omega) hX hbad⟩
 have hb2:2<n→firstT x0.toNat<240→2<firstT x0.toNat%8→(x2.toNat<128∨191<x2.toNat)→∀e,e=Ending.returned (.bool true)→Qhb n x0.toNat x1.toNat x2.toNat x3.toNat e:=fun h1 hX hs hbad e he=>⟨true,he,fun _ m y1 y2 y3 hm k1 k2 k3 e1 e2 e3=>by
  rw[Qdb (n:=n) (by omega) (by omega) (by omega) (by omega) hX hs hbad,e2 h1];exact Qdb (by omega) (by omega) (by omega) (by omega) hX hs hbad⟩
 have HST:=Hi hst;clear hst;have HNO:=Hi hno;clear hno;have HB1:=Hi hb1;clear hb1;have HB2:=Hi hb2;clear hb2;rcases Lib.firstT_cases x0.toNat with hX | hX | hX | hX | hX | hX | hX | hX | hX
 ·
  have HX:=Hi hX;rw[hX]at hc0;clear hT hX c0;by_cases hn:0≤n
  ·have hnz:(0:Int)≤(n:Int):=by omega
   have hnz2:¬(n:Int)<0:=by omega
   clear c1 c2 c3;go_enter func158,ntmps158;go_wp2;go_ret;exact⟨HST.out (by rw[HX.out];omega) _ rfl,Below.refl _ _⟩
  ·exact absurd hz0'' (by omega)
 ·
  have HX:=Hi hX;rw[hX]at hc0;clear hT hX c0;by_cases hn:1≤n
  ·have hnz:(1:Int)≤(n:Int):=by omega
   have hnz2:¬(n:Int)<1:=by omega
   clear c1 c2 c3;go_enter func158,ntmps158;go_wp2;go_ret;exact⟨HST.out (by rw[HX.out];omega) _ rfl,Below.refl _ _⟩
  ·exact absurd hz0'' (by omega)
 ·
  have HX:=Hi hX;rw[hX]at hc0;have ha0:=(hT.2 0 (by omega)).1;have ha1:=(hT.2 0 (by omega)).2;simp only[accLo,accHi,Nat.reduceMul,Nat.reduceAdd,Nat.reduceEqDiff,if_true,if_false,Nat.reduceMod,Nat.reduceDiv]at ha0 ha1;clear hT hX c0;by_cases hn:2≤n
  ·have hnz:(2:Int)≤(n:Int):=by omega
   have hnz2:¬(n:Int)<2:=by omega
   clear c1 c2 c3;go_enter func158,ntmps158;go_wp2;go_ret;exact⟨HST.out (by rw[HX.out];omega) _ rfl,Below.refl _ _⟩
  ·have hnz:¬(2:Int)≤(n:Int):=by omega
   have hnz2:(n:Int)<2:=by omega
   obtain rfl:n=1:=by omega
   ·clear hn hz hz0'' hzz
    clear c1 c2 c3;go_enter func158,ntmps158;go_wp2
    go_quiet (fail)
    go_wp2;go_ret;exact⟨HNO.out _ rfl,Qau ((Below.refl _ _).alloc (Xb _) _) _⟩
 ·
  have HX:=Hi hX;rw[hX]at hc0;have ha0:=(hT.2 1 (by omega)).1;have ha1:=(hT.2 1 (by omega)).2;simp only[accLo,accHi,Nat.reduceMul,Nat.reduceAdd,Nat.reduceEqDiff,if_true,if_false,Nat.reduceMod,Nat.reduceDiv]at ha0 ha1;clear hT hX c0;by_cases hn:3≤n
  ·have hnz:(3:Int)≤(n:Int):=by omega
   have hnz2:¬(n:Int)<3:=by omega
   clear c1 c2 c3;go_enter func158,ntmps158;go_wp2;go_ret;exact⟨HST.out (by rw[HX.out];omega) _ rfl,Below.refl _ _⟩
  ·have hnz:¬(3:Int)≤(n:Int):=by omega
   have hnz2:(n:Int)<3:=by omega
   rcases(show n=1∨n=2 by omega)with rfl | rfl
   ·clear hn hz hz0'' hzz
    clear c1 c2 c3;go_enter func158,ntmps158;go_wp2
    go_quiet (fail)
    go_wp2;go_ret;exact⟨HNO.out _ rfl,Qau ((Below.refl _ _).alloc (Xb _) _) _⟩
   ·clear hn hz hz0'' hzz
    have d1:=c1 (by omega);clear c1 c2 c3;by_cases p1:x1.toNat<160
    ·have q1:decide ((x1.toNat:Int)<160)=true:=decide_eq_true (by omega)
     go_enter func158,ntmps158;go_wp2
     go_quiet (fail)
     go_wp2;go_ret;exact⟨HB1.out (by omega) (by rw[HX.out];omega) (by rw[HX.out];exact .inl p1) _ rfl,Qau ((Below.refl _ _).alloc (Xb _) _) _⟩
    have q1:decide ((x1.toNat:Int)<160)=false:=decide_eq_false (by omega);by_cases p2:191<x1.toNat
    ·have q2:decide (191<(x1.toNat:Int))=true:=decide_eq_true (by omega)
     go_enter func158,ntmps158;go_wp2
     go_quiet (fail)
     go_wp2;go_ret;exact⟨HB1.out (by omega) (by rw[HX.out];omega) (by rw[HX.out];exact .inr p2) _ rfl,Qau ((Below.refl _ _).alloc (Xb _) _) _⟩
    have q2:decide (191<(x1.toNat:Int))=false:=decide_eq_false (by omega);go_enter func158,ntmps158;go_wp2
    go_quiet (fail)
    go_wp2;go_ret;exact⟨HNO.out _ rfl,Qau ((Below.refl _ _).alloc (Xb _) _) _⟩
 ·
  have HX:=Hi hX;rw[hX]at hc0;have ha0:=(hT.2 0 (by omega)).1;have ha1:=(hT.2 0 (by omega)).2;simp only[accLo,accHi,Nat.reduceMul,Nat.reduceAdd,Nat.reduceEqDiff,if_true,if_false,Nat.reduceMod,Nat.reduceDiv]at ha0 ha1;clear hT hX c0;by_cases hn:3≤n
  ·have hnz:(3:Int)≤(n:Int):=by omega
   have hnz2:¬(n:Int)<3:=by omega
   clear c1 c2 c3;go_enter func158,ntmps158;go_wp2;go_ret;exact⟨HST.out (by rw[HX.out];omega) _ rfl,Below.refl _ _⟩
  ·have hnz:¬(3:Int)≤(n:Int):=by omega
   have hnz2:(n:Int)<3:=by omega
   rcases(show n=1∨n=2 by omega)with rfl | rfl
   ·clear hn hz hz0'' hzz
    clear c1 c2 c3;go_enter func158,ntmps158;go_wp2
    go_quiet (fail)
    go_wp2;go_ret;exact⟨HNO.out _ rfl,Qau ((Below.refl _ _).alloc (Xb _) _) _⟩
   ·clear hn hz hz0'' hzz
    have d1:=c1 (by omega);clear c1 c2 c3;by_cases p1:x1.toNat<128
    ·have q1:decide ((x1.toNat:Int)<128)=true:=decide_eq_true (by omega)
     go_enter func158,ntmps158;go_wp2
     go_quiet (fail)
     go_wp2;go_ret;exact⟨HB1.out (by omega) (by rw[HX.out];omega) (by rw[HX.out];exact .inl p1) _ rfl,Qau ((Below.refl _ _).alloc (Xb _) _) _⟩
    have q1:decide ((x1.toNat:Int)<128)=false:=decide_eq_false (by omega);by_cases p2:191<x1.toNat
    ·have q2:decide (191<(x1.toNat:Int))=true:=decide_eq_true (by omega)
     go_enter func158,ntmps158;go_wp2
     go_quiet (fail)
     go_wp2;go_ret;exact⟨HB1.out (by omega) (by rw[HX.out];omega) (by rw[HX.out];exact .inr p2) _ rfl,Qau ((Below.refl _ _).alloc (Xb _) _) _⟩
    have q2:decide (191<(x1.toNat:Int))=false:=decide_eq_false (by omega);go_enter func158,ntmps158;go_wp2
    go_quiet (fail)
    go_wp2;go_ret;exact⟨HNO.out _ rfl,Qau ((Below.refl _ _).alloc (Xb _) _) _⟩
 ·
  have HX:=Hi hX;rw[hX]at hc0;have ha0:=(hT.2 2 (by omega)).1;have ha1:=(hT.2 2 (by omega)).2;simp only[accLo,accHi,Nat.reduceMul,Nat.reduceAdd,Nat.reduceEqDiff,if_true,if_false,Nat.reduceMod,Nat.reduceDiv]at ha0 ha1;clear hT hX c0;by_cases hn:3≤n
  ·have hnz:(3:Int)≤(n:Int):=by omega
   have hnz2:¬(n:Int)<3:=by omega
   clear c1 c2 c3;go_enter func158,ntmps158;go_wp2;go_ret;exact⟨HST.out (by rw[HX.out];omega) _ rfl,Below.refl _ _⟩
  ·have hnz:¬(3:Int)≤(n:Int):=by omega
   have hnz2:(n:Int)<3:=by omega
   rcases(show n=1∨n=2 by omega)with rfl | rfl
   ·clear hn hz hz0'' hzz
    clear c1 c2 c3;go_enter func158,ntmps158;go_wp2
    go_quiet (fail)
    go_wp2;go_ret;exact⟨HNO.out _ rfl,Qau ((Below.refl _ _).alloc (Xb _) _) _⟩
   ·clear hn hz hz0'' hzz
    have d1:=c1 (by omega);clear c1 c2 c3;by_cases p1:x1.toNat<128
    ·have q1:decide ((x1.toNat:Int)<128)=true:=decide_eq_true (by omega)
     go_enter func158,ntmps158;go_wp2
     go_quiet (fail)
     go_wp2;go_ret;exact⟨HB1.out (by omega) (by rw[HX.out];omega) (by rw[HX.out];exact .inl p1) _ rfl,Qau ((Below.refl _ _).alloc (Xb _) _) _⟩
    have q1:decide ((x1.toNat:Int)<128)=false:=decide_eq_false (by omega);by_cases p2:159<x1.toNat
    ·have q2:decide (159<(x1.toNat:Int))=true:=decide_eq_true (by omega)
     go_enter func158,ntmps158;go_wp2
     go_quiet (fail)
     go_wp2;go_ret;exact⟨HB1.out (by omega) (by rw[HX.out];omega) (by rw[HX.out];exact .inr p2) _ rfl,Qau ((Below.refl _ _).alloc (Xb _) _) _⟩
    have q2:decide (159<(x1.toNat:Int))=false:=decide_eq_false (by omega);go_enter func158,ntmps158;go_wp2
    go_quiet (fail)
    go_wp2;go_ret;exact⟨HNO.out _ rfl,Qau ((Below.refl _ _).alloc (Xb _) _) _⟩
 ·
  have HX:=Hi hX;rw[hX]at hc0;have ha0:=(hT.2 3 (by omega)).1;have ha1:=(hT.2 3 (by omega)).2;simp only[accLo,accHi,Nat.reduceMul,Nat.reduceAdd,Nat.reduceEqDiff,if_true,if_false,Nat.reduceMod,Nat.reduceDiv]at ha0 ha1;clear hT hX c0;by_cases hn:4≤n
  ·have hnz:(4:Int)≤(n:Int):=by omega
   have hnz2:¬(n:Int)<4:=by omega
   clear c1 c2 c3;go_enter func158,ntmps158;go_wp2;go_ret;exact⟨HST.out (by rw[HX.out];omega) _ rfl,Below.refl _ _⟩
  ·have hnz:¬(4:Int)≤(n:Int):=by omega
   have hnz2:(n:Int)<4:=by omega
   rcases(show n=1∨n=2∨n=3 by omega)with rfl | rfl | rfl
   ·clear hn hz hz0'' hzz
    clear c1 c2 c3;go_enter func158,ntmps158;go_wp2
    go_quiet (fail)
    go_wp2;go_ret;exact⟨HNO.out _ rfl,Qau ((Below.refl _ _).alloc (Xb _) _) _⟩
   ·clear hn hz hz0'' hzz
    have d1:=c1 (by omega);clear c1 c2 c3;by_cases p1:x1.toNat<144
    ·have q1:decide ((x1.toNat:Int)<144)=true:=decide_eq_true (by omega)
     go_enter func158,ntmps158;go_wp2
     go_quiet (fail)
     go_wp2;go_ret;exact⟨HB1.out (by omega) (by rw[HX.out];omega) (by rw[HX.out];exact .inl p1) _ rfl,Qau ((Below.refl _ _).alloc (Xb _) _) _⟩
    have q1:decide ((x1.toNat:Int)<144)=false:=decide_eq_false (by omega);by_cases p2:191<x1.toNat
    ·have q2:decide (191<(x1.toNat:Int))=true:=decide_eq_true (by omega)
     go_enter func158,ntmps158;go_wp2
     go_quiet (fail)
     go_wp2;go_ret;exact⟨HB1.out (by omega) (by rw[HX.out];omega) (by rw[HX.out];exact .inr p2) _ rfl,Qau ((Below.refl _ _).alloc (Xb _) _) _⟩
    have q2:decide (191<(x1.toNat:Int))=false:=decide_eq_false (by omega);go_enter func158,ntmps158;go_wp2
    go_quiet (fail)
    go_wp2;go_ret;exact⟨HNO.out _ rfl,Qau ((Below.refl _ _).alloc (Xb _) _) _⟩
   ·clear hn hz hz0'' hzz
    have d1:=c1 (by omega);have d2:=c2 (by omega);clear c1 c2 c3;by_cases p1:x1.toNat<144
    ·have q1:decide ((x1.toNat:Int)<144)=true:=decide_eq_true (by omega)
     go_enter func158,ntmps158;go_wp2
     go_quiet (fail)
     go_wp2;go_ret;exact⟨HB1.out (by omega) (by rw[HX.out];omega) (by rw[HX.out];exact .inl p1) _ rfl,Qau ((Below.refl _ _).alloc (Xb _) _) _⟩
    have q1:decide ((x1.toNat:Int)<144)=false:=decide_eq_false (by omega);by_cases p2:191<x1.toNat
    ·have q2:decide (191<(x1.toNat:Int))=true:=decide_eq_true (by omega)
     go_enter func158,ntmps158;go_wp2
     go_quiet (fail)
     go_wp2;go_ret;exact⟨HB1.out (by omega) (by rw[HX.out];omega) (by rw[HX.out];exact .inr p2) _ rfl,Qau ((Below.refl _ _).alloc (Xb _) _) _⟩
    have q2:decide (191<(x1.toNat:Int))=false:=decide_eq_false (by omega);by_cases p3:x2.toNat<128
    ·have qp3:decide ((x2.toNat:Int)<128)=true:=decide_eq_true (by omega)
     go_enter func158,ntmps158;go_wp2
     go_quiet (fail)
     go_wp2;go_ret;exact⟨HB2.out (by omega) (by rw[HX.out];omega) (by rw[HX.out];omega) (.inl p3) _ rfl,Qau ((Below.refl _ _).alloc (Xb _) _) _⟩
    have qp3:decide ((x2.toNat:Int)<128)=false:=decide_eq_false (by omega);by_cases p4:191<x2.toNat
    ·have qp4:decide (191<(x2.toNat:Int))=true:=decide_eq_true (by omega)
     go_enter func158,ntmps158;go_wp2
     go_quiet (fail)
     go_wp2;go_ret;exact⟨HB2.out (by omega) (by rw[HX.out];omega) (by rw[HX.out];omega) (.inr p4) _ rfl,Qau ((Below.refl _ _).alloc (Xb _) _) _⟩
    have qp4:decide (191<(x2.toNat:Int))=false:=decide_eq_false (by omega);go_enter func158,ntmps158;go_wp2
    go_quiet (fail)
    go_wp2;go_ret;exact⟨HNO.out _ rfl,Qau ((Below.refl _ _).alloc (Xb _) _) _⟩
 ·
  have HX:=Hi hX;rw[hX]at hc0;have ha0:=(hT.2 0 (by omega)).1;have ha1:=(hT.2 0 (by omega)).2;simp only[accLo,accHi,Nat.reduceMul,Nat.reduceAdd,Nat.reduceEqDiff,if_true,if_false,Nat.reduceMod,Nat.reduceDiv]at ha0 ha1;clear hT hX c0;by_cases hn:4≤n
  ·have hnz:(4:Int)≤(n:Int):=by omega
   have hnz2:¬(n:Int)<4:=by omega
   clear c1 c2 c3;go_enter func158,ntmps158;go_wp2;go_ret;exact⟨HST.out (by rw[HX.out];omega) _ rfl,Below.refl _ _⟩
  ·have hnz:¬(4:Int)≤(n:Int):=by omega
   have hnz2:(n:Int)<4:=by omega
   rcases(show n=1∨n=2∨n=3 by omega)with rfl | rfl | rfl
   ·clear hn hz hz0'' hzz
    clear c1 c2 c3;go_enter func158,ntmps158;go_wp2
    go_quiet (fail)
    go_wp2;go_ret;exact⟨HNO.out _ rfl,Qau ((Below.refl _ _).alloc (Xb _) _) _⟩
   ·clear hn hz hz0'' hzz
    have d1:=c1 (by omega);clear c1 c2 c3;by_cases p1:x1.toNat<128
    ·have q1:decide ((x1.toNat:Int)<128)=true:=decide_eq_true (by omega)
     go_enter func158,ntmps158;go_wp2
     go_quiet (fail)
     go_wp2;go_ret;exact⟨HB1.out (by omega) (by rw[HX.out];omega) (by rw[HX.out];exact .inl p1) _ rfl,Qau ((Below.refl _ _).alloc (Xb _) _) _⟩
    have q1:decide ((x1.toNat:Int)<128)=false:=decide_eq_false (by omega);by_cases p2:191<x1.toNat
    ·have q2:decide (191<(x1.toNat:Int))=true:=decide_eq_true (by omega)
     go_enter func158,ntmps158;go_wp2
     go_quiet (fail)
     go_wp2;go_ret;exact⟨HB1.out (by omega) (by rw[HX.out];omega) (by rw[HX.out];exact .inr p2) _ rfl,Qau ((Below.refl _ _).alloc (Xb _) _) _⟩
    have q2:decide (191<(x1.toNat:Int))=false:=decide_eq_false (by omega);go_enter func158,ntmps158;go_wp2
    go_quiet (fail)
    go_wp2;go_ret;exact⟨HNO.out _ rfl,Qau ((Below.refl _ _).alloc (Xb _) _) _⟩
   ·clear hn hz hz0'' hzz
    have d1:=c1 (by omega);have d2:=c2 (by omega);clear c1 c2 c3;by_cases p1:x1.toNat<128
    ·have q1:decide ((x1.toNat:Int)<128)=true:=decide_eq_true (by omega)
     go_enter func158,ntmps158;go_wp2
     go_quiet (fail)
     go_wp2;go_ret;exact⟨HB1.out (by omega) (by rw[HX.out];omega) (by rw[HX.out];exact .inl p1) _ rfl,Qau ((Below.refl _ _).alloc (Xb _) _) _⟩
    have q1:decide ((x1.toNat:Int)<128)=false:=decide_eq_false (by omega);by_cases p2:191<x1.toNat
    ·have q2:decide (191<(x1.toNat:Int))=true:=decide_eq_true (by omega)
     go_enter func158,ntmps158;go_wp2
     go_quiet (fail)
     go_wp2;go_ret;exact⟨HB1.out (by omega) (by rw[HX.out];omega) (by rw[HX.out];exact .inr p2) _ rfl,Qau ((Below.refl _ _).alloc (Xb _) _) _⟩
    have q2:decide (191<(x1.toNat:Int))=false:=decide_eq_false (by omega);by_cases p3:x2.toNat<128
    ·have qp3:decide ((x2.toNat:Int)<128)=true:=decide_eq_true (by omega)
     go_enter func158,ntmps158;go_wp2
     go_quiet (fail)
     go_wp2;go_ret;exact⟨HB2.out (by omega) (by rw[HX.out];omega) (by rw[HX.out];omega) (.inl p3) _ rfl,Qau ((Below.refl _ _).alloc (Xb _) _) _⟩
    have qp3:decide ((x2.toNat:Int)<128)=false:=decide_eq_false (by omega);by_cases p4:191<x2.toNat
    ·have qp4:decide (191<(x2.toNat:Int))=true:=decide_eq_true (by omega)
     go_enter func158,ntmps158;go_wp2
     go_quiet (fail)
     go_wp2;go_ret;exact⟨HB2.out (by omega) (by rw[HX.out];omega) (by rw[HX.out];omega) (.inr p4) _ rfl,Qau ((Below.refl _ _).alloc (Xb _) _) _⟩
    have qp4:decide (191<(x2.toNat:Int))=false:=decide_eq_false (by omega);go_enter func158,ntmps158;go_wp2
    go_quiet (fail)
    go_wp2;go_ret;exact⟨HNO.out _ rfl,Qau ((Below.refl _ _).alloc (Xb _) _) _⟩
 ·
  have HX:=Hi hX;rw[hX]at hc0;have ha0:=(hT.2 4 (by omega)).1;have ha1:=(hT.2 4 (by omega)).2;simp only[accLo,accHi,Nat.reduceMul,Nat.reduceAdd,Nat.reduceEqDiff,if_true,if_false,Nat.reduceMod,Nat.reduceDiv]at ha0 ha1;clear hT hX c0;by_cases hn:4≤n
  ·have hnz:(4:Int)≤(n:Int):=by omega
   have hnz2:¬(n:Int)<4:=by omega
   clear c1 c2 c3;go_enter func158,ntmps158;go_wp2;go_ret;exact⟨HST.out (by rw[HX.out];omega) _ rfl,Below.refl _ _⟩
  ·have hnz:¬(4:Int)≤(n:Int):=by omega
   have hnz2:(n:Int)<4:=by omega
   rcases(show n=1∨n=2∨n=3 by omega)with rfl | rfl | rfl
   ·clear hn hz hz0'' hzz
    clear c1 c2 c3;go_enter func158,ntmps158;go_wp2
    go_quiet (fail)
    go_wp2;go_ret;exact⟨HNO.out _ rfl,Qau ((Below.refl _ _).alloc (Xb _) _) _⟩
   ·clear hn hz hz0'' hzz
    have d1:=c1 (by omega);clear c1 c2 c3;by_cases p1:x1.toNat<128
    ·have q1:decide ((x1.toNat:Int)<128)=true:=decide_eq_true (by omega)
     go_enter func158,ntmps158;go_wp2
     go_quiet (fail)
     go_wp2;go_ret;exact⟨HB1.out (by omega) (by rw[HX.out];omega) (by rw[HX.out];exact .inl p1) _ rfl,Qau ((Below.refl _ _).alloc (Xb _) _) _⟩
    have q1:decide ((x1.toNat:Int)<128)=false:=decide_eq_false (by omega);by_cases p2:143<x1.toNat
    ·have q2:decide (143<(x1.toNat:Int))=true:=decide_eq_true (by omega)
     go_enter func158,ntmps158;go_wp2
     go_quiet (fail)
     go_wp2;go_ret;exact⟨HB1.out (by omega) (by rw[HX.out];omega) (by rw[HX.out];exact .inr p2) _ rfl,Qau ((Below.refl _ _).alloc (Xb _) _) _⟩
    have q2:decide (143<(x1.toNat:Int))=false:=decide_eq_false (by omega);go_enter func158,ntmps158;go_wp2
    go_quiet (fail)
    go_wp2;go_ret;exact⟨HNO.out _ rfl,Qau ((Below.refl _ _).alloc (Xb _) _) _⟩
   ·clear hn hz hz0'' hzz
    have d1:=c1 (by omega);have d2:=c2 (by omega);clear c1 c2 c3;by_cases p1:x1.toNat<128
    ·have q1:decide ((x1.toNat:Int)<128)=true:=decide_eq_true (by omega)
     go_enter func158,ntmps158;go_wp2
     go_quiet (fail)
     go_wp2;go_ret;exact⟨HB1.out (by omega) (by rw[HX.out];omega) (by rw[HX.out];exact .inl p1) _ rfl,Qau ((Below.refl _ _).alloc (Xb _) _) _⟩
    have q1:decide ((x1.toNat:Int)<128)=false:=decide_eq_false (by omega);by_cases p2:143<x1.toNat
    ·have q2:decide (143<(x1.toNat:Int))=true:=decide_eq_true (by omega)
     go_enter func158,ntmps158;go_wp2
     go_quiet (fail)
     go_wp2;go_ret;exact⟨HB1.out (by omega) (by rw[HX.out];omega) (by rw[HX.out];exact .inr p2) _ rfl,Qau ((Below.refl _ _).alloc (Xb _) _) _⟩
    have q2:decide (143<(x1.toNat:Int))=false:=decide_eq_false (by omega);by_cases p3:x2.toNat<128
    ·have qp3:decide ((x2.toNat:Int)<128)=true:=decide_eq_true (by omega)
     go_enter func158,ntmps158;go_wp2
     go_quiet (fail)
     go_wp2;go_ret;exact⟨HB2.out (by omega) (by rw[HX.out];omega) (by rw[HX.out];omega) (.inl p3) _ rfl,Qau ((Below.refl _ _).alloc (Xb _) _) _⟩
    have qp3:decide ((x2.toNat:Int)<128)=false:=decide_eq_false (by omega);by_cases p4:191<x2.toNat
    ·have qp4:decide (191<(x2.toNat:Int))=true:=decide_eq_true (by omega)
     go_enter func158,ntmps158;go_wp2
     go_quiet (fail)
     go_wp2;go_ret;exact⟨HB2.out (by omega) (by rw[HX.out];omega) (by rw[HX.out];omega) (.inr p4) _ rfl,Qau ((Below.refl _ _).alloc (Xb _) _) _⟩
    have qp4:decide (191<(x2.toNat:Int))=false:=decide_eq_false (by omega);go_enter func158,ntmps158;go_wp2
    go_quiet (fail)
    go_wp2;go_ret;exact⟨HNO.out _ rfl,Qau ((Below.refl _ _).alloc (Xb _) _) _⟩
end Go.Proofs.Pg
