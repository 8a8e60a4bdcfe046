/- FnPolicyCut, part 6. -/
import Derived.Test.YtmhjkkkhdlnngaaGreatDoorP04
import Derived.Lib.BufferAt
set_option linter.all false
set_option maxRecDepth 100000
set_option maxHeartbeats 0
namespace Go.Proofs.Pg
open Go.RowKit Go.Proofs.Tryz
attribute [local go_sem] Oper.semAt_some
def AdvPost(w:World)(bp base:Nat)(t:Tok)(ts:List Tok)(e:Ending)(w':World):Prop:=e=.returned t.val∧PS w' bp base (Pg.adv (t::ts))∧Ext (·=bp) w w'
abbrev Tok.row(t:Tok):Array Value:=#[.int .i64 t.ty,.string t.fn,.int .i64 t.off,.int .i64 t.ln,.int .i64 t.col,.string t.tx]
abbrev tok0:Array Value:=#[.int .i64 0,.string ⟨#[]⟩,.int .i64 0,.int .i64 0,.int .i64 0,.string ⟨#[]⟩]
theorem Qgz{W:World}{fn:Func}{R:Nat}{t:Tok}{Q:Ending→World→Prop}(a:Act)(s:Nat)(hf:fn.results=#[.cell s 122])(ha:a.tmps.getD s undef=.pointer (some ⟨R,0,none⟩))(had:a.defers=[])
  (r:W.heap[R]? =some (.cells t.row 122 (0,0)))(h:Q (.returned t.val) W):bodyPost prog fn Q Exit.ret a W:=by
 refine bodyPost_ret (Qao (a:=s) (t:=122) hf _ ⟨R,0,none⟩ ha _ _ (QfW _ _ _ _ _ _ _ _ _ (by kernel_rfl) (by kernel_rfl) (Qaa (o:=0) r rfl) (Qaa (o:=1) r rfl) (Qaa (o:=2) r rfl) (Qaa (o:=3) r rfl) (Qaa (o:=4) r rfl) (Qaa (o:=5) r rfl))) had h
theorem Qg0{w:World}{R:Nat}{u0 u1 u2 u3 u4 u5:Value}{ty:TypeId}(t:Tok)(h:w.heap[R]? =some (.cells #[u0,u1,u2,u3,u4,u5] ty (0,0))) :
  ((((((w.setCell ⟨R,0,none⟩ (.int .i64 t.ty)).setCell ⟨R,1,none⟩ (.string t.fn)).setCell ⟨R,2,none⟩ (.int .i64 t.off)).setCell ⟨R,3,none⟩ (.int .i64 t.ln)).setCell ⟨R,4,none⟩ (.int .i64 t.col)).setCell ⟨R,5,none⟩ (.string t.tx)).heap[R]? =some (.cells t.row ty (0,0)) :=
 Qac (o:=5) (Qac (o:=4) (Qac (o:=3) (Qac (o:=2) (Qac (o:=1) (Qac (o:=0) h _) _) _) _) _) _
theorem Qfv{w:World}{R b:Nat}{x:Obj}(v0 v1 v2 v3 v4 v5:Value)(h:w.heap[b]? =some x)(hn:b≠R) :
  ((((((w.setCell ⟨R,0,none⟩ v0).setCell ⟨R,1,none⟩ v1).setCell ⟨R,2,none⟩ v2).setCell ⟨R,3,none⟩ v3).setCell ⟨R,4,none⟩ v4).setCell ⟨R,5,none⟩ v5).heap[b]? =some x :=
 Qag (Qag (Qag (Qag (Qag (Qag h hn _) hn _) hn _) hn _) hn _) hn _
theorem QeR{S:Nat→Prop}{w w1:World}{R:Nat}(v0 v1 v2 v3 v4 v5:Value)(h:Ext S w w1)(hR:S R∨w.heap.size≤R) :
  Ext S w ((((((w1.setCell ⟨R,0,none⟩ v0).setCell ⟨R,1,none⟩ v1).setCell ⟨R,2,none⟩ v2).setCell ⟨R,3,none⟩ v3).setCell ⟨R,4,none⟩ v4).setCell ⟨R,5,none⟩ v5) :=
 (((((h.set hR _).set hR _).set hR _).set hR _).set hR _).set hR _
theorem Qaz{w:World}{bp base:Nat}{t:Tok}{ts:List Tok}(hp:PS w bp base (t::ts)) :
  Calls prog 91 #[.pointer (some ⟨bp,0,none⟩)] w (AdvPost w bp base t ts):=by
 go_enter func91,ntmps91
 go_wp2_with fail
 refine(Qa7 (hp.below (Qab w _))).mono ?_;rintro e w1⟨rfl,hb1⟩;have hb:Below w.heap.size w w1:=(Qab w _).trans (hb1.mono (by simp));have hE:Ext (·=bp) w w1:=.below hb;have hs1:w.heap.size+1≤w1.heap.size:=by have:=hb1.size;simpa using this
 have r1:w1.heap[w.heap.size]? =some (.cells tok0 122 (0,0)):=(hb1.block _ (by simp)).trans (Xa w _);have hlt0:=hp.lt;clear hb1;obtain⟨bt,off,n,cap,k,a,b,hbt,d,hn,f,g⟩:=hp.ex;have hlo:=hp.lo _ _ _ _ _ b;have hpb:=hp.hbp;have hpg:=hp.g;have h15:=hp.h15;have hbs:=hp.hbs;have b':w1.heap[bp]? =some (.cells #[.slice (some ⟨bt,off,none⟩) n cap,.int .i64 (k:Nat)] 142 (0,0)):=(hb.block _ hlt0).trans b;have hbp:bp<w1.heap.size:=by omega
 have p0:w1.cell? ⟨bp,0,none⟩=some (.slice (some ⟨bt,off,none⟩) n cap):=Qaa b' rfl;have p1:w1.cell? ⟨bp,1,none⟩=some (.int .i64 (k:Nat)):=Qaa b' rfl;have hf1:∀o,(w1.alloc o).frozen? ⟨bp,1,none⟩=false:=fun o=>Qae (Qaf b' o) 1
 have hf0:∀o i,(w1.alloc o).frozen? ⟨w.heap.size,i,none⟩=false:=fun o i=>Qae (Qaf r1 o) i
 have z0:w1.cell? ⟨w.heap.size,0,none⟩=some (.int .i64 0):=Qaa r1 rfl;have z1:w1.cell? ⟨w.heap.size,1,none⟩=some (.string ⟨#[]⟩):=Qaa r1 rfl;have z2:w1.cell? ⟨w.heap.size,2,none⟩=some (.int .i64 0):=Qaa r1 rfl;have z3:w1.cell? ⟨w.heap.size,3,none⟩=some (.int .i64 0):=Qaa r1 rfl;have z4:w1.cell? ⟨w.heap.size,4,none⟩=some (.int .i64 0):=Qaa r1 rfl;have z5:w1.cell? ⟨w.heap.size,5,none⟩=some (.string ⟨#[]⟩):=Qaa r1 rfl
 have hlt1:w.heap.size<w1.heap.size:=by omega
 have B:=Hi b';clear b b';have R1:=Hi r1;clear r1;cases ts with
 | nil =>
  have hk:¬k<n-1:=by simp at d;omega
  have hn1:1≤n:=by simp at d;omega
  have D:=Hi d;have F:=Hi f;have G:=Hi g;clear d f g hp
  go_wp2_with fail
  go_quiet (fail)
  go_wp2;have hE1:Ext (·=bp) w _:=QeR (.int .i64 t.ty) (.string t.fn) (.int .i64 t.off) (.int .i64 t.ln) (.int .i64 t.col) (.string t.tx) ((hE.alloc (.cells t.row 122)).drewN nq) (R:=w.heap.size) (.inr (Xb _));refine Qgz (R:=w.heap.size) (t:=t) _ 2 (by kernel_rfl) rfl rfl (Qg0 t (Qaf R1.out _)) ⟨rfl,PS.of a (Qfv _ _ _ _ _ _ (Qaf B.out _) (by omega)) ?_ D.out hn (by simp[adv]) (fun i u hi=>(G.out i u hi).ext hE1 (fun e=>a e.symm)) hlo hpb (hpg.ext hE1 (fun d hd=>by omega) (by omega)) h15 (Xe hbs hE1.size),hE1⟩
  ·exact Nat.lt_of_lt_of_le hbt hE1.size
 | cons u ts =>
  have hk:k<n-1:=by simp at d;omega
  have hn1:1≤n:=by simp at d;omega
  have D:=Hi d;have F:=Hi f;have G:=Hi g;clear d f g hp
  go_wp2_with fail
  go_quiet (fail)
  go_wp2;have hE1:Ext (·=bp) w _:=QeR (.int .i64 t.ty) (.string t.fn) (.int .i64 t.off) (.int .i64 t.ln) (.int .i64 t.col) (.string t.tx) (((hE.alloc (.cells t.row 122)).drewN nq).set (p:=⟨bp,1,none⟩) (.inl rfl) (.int .i64 (k+1))) (R:=w.heap.size) (.inr (Xb _));refine Qgz (R:=w.heap.size) (t:=t) _ 2 (by kernel_rfl) rfl rfl (Qg0 t (Qag (Qaf R1.out _) (by omega) _)) ⟨rfl,PS.of a (off:=off) (cap:=cap) (k:=k+1) ?_ ?_ ?_ hn (by simp[adv]) (fun i v hi=>?_) hlo hpb (hpg.ext hE1 (fun d hd=>by omega) (by omega)) h15 (Xe hbs hE1.size),hE1⟩
  ·refine Qfv _ _ _ _ _ _ ?_ (by omega)
   exact Qac (o:=1) (Qaf B.out _) _
  ·exact Nat.lt_of_lt_of_le hbt hE1.size
  ·have:=D.out;simp[adv]at this ⊢;omega
  ·have:=(G.out (i+1) v (by simpa [adv]using hi)).ext hE1 (fun e=>a e.symm)
   rw[show k+1+i=k+(i+1)by omega];exact this
def Qg1(base:Nat)(w:World)(e:Ending)(w':World):Prop:=∃T,∃x:EVal base w' T,e=.returned (.iface T x.1)∧Below w.heap.size w w'
theorem QaV(s:ByteArray)(w:World){base:Nat}(hb:base≤w.heap.size):Calls prog 141 #[.string s] w (Qg1 base w):=by
 go_enter func141,ntmps141;go_wp2;go_ret;exact⟨_,⟨_,.inr ⟨_,rfl,hb,⟨_,Xa w _⟩⟩⟩,rfl,Qab w _⟩
theorem Qay{w:World}{bp base:Nat}{ts:List Tok}(hp:PS w bp base ts)(s:ByteArray)(args:Value) :
  Calls prog 95 #[.pointer (some ⟨bp,0,none⟩),.string s,args] w (Qg1 base w):=by
 obtain⟨bt,off,n,cap,k,a,b,hbt,d,hn,f,g⟩:=hp.ex;cases ts with
 | nil=>exact absurd rfl f
 | cons t ts =>
 have hbp:=hp.lt;obtain⟨c0,c1,c2,c3,c4,c5,_⟩:=g 0 t rfl;have p0:w.cell? ⟨bp,0,none⟩=some (.slice (some ⟨bt,off,none⟩) n cap):=Qaa b rfl;have p1:w.cell? ⟨bp,1,none⟩=some (.int .i64 (k:Nat)):=Qaa b rfl;simp only[Nat.add_zero]at c0 c1 c2 c3 c4 c5;have hk:k<n:=by simp at d;omega
 have hbs:=hp.hbs;clear a b d g f hp;go_enter func95,ntmps95
 go_wp2_with fail
 go_quiet (fail)
 go_wp2_with fail
 refine QaK 10 (by kernel_rfl) (by kernel_rfl) ?_;simp only[List.take_succ_cons,List.take_zero,List.drop_succ_cons,List.drop_zero]
 repeat still_step
 refine wpStill_nil ?_
 go_wp2_with fail
 refine(QaV _ _ (base:=base) (by simp;omega)).mono ?_;rintro e w2⟨T,x,rfl,hb⟩;go_wp2;go_ret;refine⟨_,_,rfl,?_⟩;refine Below.trans ?_ (hb.mono ?_)
 ·exact(QeR (S:=fun _=>False) _ _ _ _ _ _ ((((Ext.refl _ w).alloc _).drewN _).drew) (R:=w.heap.size) (.inr (Xb _))).toBelow (fun _ h=>h.elim) (Xb _)
 ·simp
theorem isEOF_c(t:Tok)(w:World):Calls prog 54 #[t.val] w fun e w'=>e=.returned (.bool (t.ty==0))∧Below w.heap.size w w':=by
 go_enter func54,ntmps54;go_wp2;go_ret;exact⟨rfl,Qab w _⟩
theorem Qbd(t:Tok)(w:World):Calls prog 133 #[t.val] w fun e w'=>e=.returned (.bool (t.ty==1))∧Below w.heap.size w w':=by
 go_enter func133,ntmps133;go_wp2;go_ret;exact⟨rfl,Qab w _⟩
theorem Qg2(t:Tok)(w:World):Calls prog 245 #[t.val] w fun e w'=>e=.returned (.bool (t.ty==2))∧Below w.heap.size w w':=by
 go_enter func245,ntmps245;go_wp2;go_ret;exact⟨rfl,Qab w _⟩
theorem isRes_c(t:Tok)(w:World):Calls prog 134 #[t.val] w fun e w'=>e=.returned (.bool (t.ty==3))∧Below w.heap.size w w':=by
 go_enter func134,ntmps134;go_wp2;go_ret;exact⟨rfl,Qab w _⟩
theorem QbY(t:Tok)(w:World):Calls prog 137 #[t.val] w fun e w'=>e=.returned (.bool (t.ty==4))∧Below w.heap.size w w':=by
 go_enter func137,ntmps137;go_wp2;go_ret;exact⟨rfl,Qab w _⟩
theorem Qg3{w:World}{bp base:Nat}{t:Tok}{ts:List Tok}(hp:PS w bp base (t::ts))(s:ByteArray)(h:(t.tx.toList==s.toList)=true) :
  Calls prog 70 #[.pointer (some ⟨bp,0,none⟩),.string s] w fun e w'=>e=.returned .nilIface∧PS w' bp base (adv (t::ts))∧Ext (·=bp) w w':=by
 go_enter func70,ntmps70
 go_wp2_with fail
 refine(Qaz hp).mono ?_;rintro e w1⟨rfl,hp1,hE⟩;go_wp2;go_ret;exact⟨rfl,hp1.below (Qab _ _),hE.alloc _⟩
theorem exact_no{w:World}{bp base:Nat}{t:Tok}{ts:List Tok}(hp:PS w bp base (t::ts))(s:ByteArray)(h:(t.tx.toList==s.toList)=false) :
  Calls prog 70 #[.pointer (some ⟨bp,0,none⟩),.string s] w fun e w'=>∃T,∃x:EVal base w' T,e=.returned (.iface T x.1)∧PS w' bp base (adv (t::ts))∧Ext (·=bp) w w':=by
 go_enter func70,ntmps70
 go_wp2_with fail
 refine(Qaz hp).mono ?_;rintro e w1⟨rfl,hp1,hE⟩
 go_wp2_with fail
 refine(Qay ((hp1.below (Qab _ _)).below (Qab _ _)) _ _).mono ?_;rintro e w2⟨T,x,rfl,hb⟩;go_wp2;go_ret;exact⟨_,_,rfl,((hp1.below (Qab _ _)).below (Qab _ _)).below hb,((hE.alloc _).alloc _).trans (.below hb)⟩
theorem skip_yes{w:World}{bp base:Nat}{t:Tok}{ts:List Tok}(hp:PS w bp base (t::ts))(s:ByteArray)(h:(t.tx.toList==s.toList)=true) :
  Calls prog 74 #[.pointer (some ⟨bp,0,none⟩),.string s] w fun e w'=>e=.returned (.tuple #[])∧PS w' bp base (adv (t::ts))∧Ext (·=bp) w w':=by
 go_enter func74,ntmps74
 go_wp2_with fail
 refine(Qa7 hp).mono ?_;rintro e w1⟨rfl,hb⟩;have hp1:=hp.below hb
 go_wp2_with fail
 refine(Qaz (hp1.below (Qab _ _))).mono ?_;rintro e w2⟨rfl,hp2,hE⟩;go_wp2
 go_end0
 exact⟨rfl,hp2,((Ext.below hb).alloc _).trans hE⟩
theorem skip_no{w:World}{bp base:Nat}{t:Tok}{ts:List Tok}(hp:PS w bp base (t::ts))(s:ByteArray)(h:(t.tx.toList==s.toList)=false) :
  Calls prog 74 #[.pointer (some ⟨bp,0,none⟩),.string s] w fun e w'=>e=.returned (.tuple #[])∧PS w' bp base (t::ts)∧Ext (·=bp) w w':=by
 go_enter func74,ntmps74
 go_wp2_with fail
 refine(Qa7 hp).mono ?_;rintro e w1⟨rfl,hb⟩;have hp1:=hp.below hb;go_wp2
 go_end0
 exact⟨rfl,hp1.below (Qab _ _),(Ext.below hb).alloc _⟩
end Go.Proofs.Pg
namespace Go.Proofs.Pg
open Go.RowKit
structure Fd where
 src:Value
 buf:Nat→UInt8
 pos:Int
 en:Int
 off:Int
 ln:Int
 col:Int
 lll:Int
 lcl:Int
 tp:Int
 te:Int
 ch:Int
 er:Value
 pf:Value
 po:Int
 pl:Int
 pc:Int
def RF(F:Fd)(i:Nat):Option Value :=
 if i=0 then some F.src else if i≤1025 then some (.int .u8 ((F.buf (i-1)).toNat:Int))else if i=1026 then some (.int .i64 F.pos)else if i=1027 then some (.int .i64 F.en)else if i=1028 then some (.int .i64 F.off)
 else if i=1029 then some (.int .i64 F.ln)else if i=1030 then some (.int .i64 F.col)else if i=1031 then some (.int .i64 F.lll)else if i=1032 then some (.int .i64 F.lcl)else if i<1036 then none else if i=1036 then some (.int .i64 F.tp)
 else if i=1037 then some (.int .i64 F.te)else if i=1038 then some (.int .i32 F.ch)else if i=1039 then some F.er else if i=1040 then some F.pf else if i=1041 then some (.int .i64 F.po)else if i=1042 then some (.int .i64 F.pl)
 else if i=1043 then some (.int .i64 F.pc)else none
def Sn(w:World)(lo b:Nat)(F:Fd)(tb:List UInt8):Prop:=LibA.IsBuffer 249 (RF F) 5 lo b 1033 (Lib.byteCells tb) w
variable {w w':World}{lo b:Nat}{F:Fd}{tb:List UInt8}
theorem Sn.lt(h:Sn w lo b F tb):b<w.heap.size:=LibA.IsBuffer.lt h
theorem Sn.cell(h:Sn w lo b F tb)(i:Nat)(hi:i<1033∨1036≤i):w.cell? ⟨b,i,none⟩=RF F i:=LibA.IsBuffer.rest h i hi
theorem Sn.free(h:Sn w lo b F tb)(i:Nat):w.frozen? ⟨b,i,none⟩=false:=LibA.IsBuffer.notFrozen h i
theorem Sn.bufAt(h:Sn w lo b F tb)(j:Nat)(hj:j≤1024):w.cell? ⟨b,1+j,none⟩=some (.int .u8 ((F.buf j).toNat:Int)):=by
 rw[h.cell (1+j) (by omega)];unfold RF;rw[if_neg (by omega),if_pos (by omega),show 1+j-1=j by omega]
theorem Sn.cong{F G:Fd}{R:Nat→Option Value}(h:LibA.IsBuffer 249 R 5 lo b 1033 (Lib.byteCells tb) w)(e:R=RF G):Sn w lo b G tb:=by unfold Sn;rw[←e];exact h
theorem Sn.drew(h:Sn w lo b F tb):Sn w.drew lo b F tb:=h
theorem Sn.drewN(h:Sn w lo b F tb)(n:Nat):Sn (w.drewN n) lo b F tb:=h
theorem Sn.alloc(h:Sn w lo b F tb)(x:Obj):Sn (w.alloc x) lo b F tb:=LibA.IsBuffer.alloc h x
theorem Sn.old(h:Sn w lo b F tb)(hb:Below w.heap.size w w'):Sn w' lo b F tb:=LibA.IsBuffer.old h hb
theorem Sn.c_src(h:Sn w lo b F tb):w.cell? ⟨b,0,none⟩=some (F.src):=h.cell 0 (by omega)
theorem Sn.s_src(h:Sn w lo b F tb)(x:Value):Sn (w.setCell ⟨b,0,none⟩ (x)) lo b {F with src:=x} tb:=by
 refine Sn.cong (F:=F) (LibA.IsBuffer.setOther h 0 (by omega) (old:=F.src) rfl (x)) (funext fun j=>?_);by_cases hj:j=0
 ·subst hj;rfl
 ·simp only[RF,hj,if_false]
theorem Sn.c_pos(h:Sn w lo b F tb):w.cell? ⟨b,1026,none⟩=some (.int .i64 F.pos):=h.cell 1026 (by omega)
theorem Sn.s_pos(h:Sn w lo b F tb)(x:Int):Sn (w.setCell ⟨b,1026,none⟩ (.int .i64 x)) lo b {F with pos:=x} tb:=by
 refine Sn.cong (F:=F) (LibA.IsBuffer.setOther h 1026 (by omega) (old:=.int .i64 F.pos) rfl (.int .i64 x)) (funext fun j=>?_);by_cases hj:j=1026
 ·subst hj;rfl
 ·simp only[RF,hj,if_false]
theorem Sn.c_en(h:Sn w lo b F tb):w.cell? ⟨b,1027,none⟩=some (.int .i64 F.en):=h.cell 1027 (by omega)
theorem Sn.s_en(h:Sn w lo b F tb)(x:Int):Sn (w.setCell ⟨b,1027,none⟩ (.int .i64 x)) lo b {F with en:=x} tb:=by
 refine Sn.cong (F:=F) (LibA.IsBuffer.setOther h 1027 (by omega) (old:=.int .i64 F.en) rfl (.int .i64 x)) (funext fun j=>?_);by_cases hj:j=1027
 ·subst hj;rfl
 ·simp only[RF,hj,if_false]
theorem Sn.c_off(h:Sn w lo b F tb):w.cell? ⟨b,1028,none⟩=some (.int .i64 F.off):=h.cell 1028 (by omega)
theorem Sn.s_off(h:Sn w lo b F tb)(x:Int):Sn (w.setCell ⟨b,1028,none⟩ (.int .i64 x)) lo b {F with off:=x} tb:=by
 refine Sn.cong (F:=F) (LibA.IsBuffer.setOther h 1028 (by omega) (old:=.int .i64 F.off) rfl (.int .i64 x)) (funext fun j=>?_);by_cases hj:j=1028
 ·subst hj;rfl
 ·simp only[RF,hj,if_false]
theorem Sn.c_ln(h:Sn w lo b F tb):w.cell? ⟨b,1029,none⟩=some (.int .i64 F.ln):=h.cell 1029 (by omega)
theorem Sn.s_ln(h:Sn w lo b F tb)(x:Int):Sn (w.setCell ⟨b,1029,none⟩ (.int .i64 x)) lo b {F with ln:=x} tb:=by
 refine Sn.cong (F:=F) (LibA.IsBuffer.setOther h 1029 (by omega) (old:=.int .i64 F.ln) rfl (.int .i64 x)) (funext fun j=>?_);by_cases hj:j=1029
 ·subst hj;rfl
 ·simp only[RF,hj,if_false]
theorem Sn.c_col(h:Sn w lo b F tb):w.cell? ⟨b,1030,none⟩=some (.int .i64 F.col):=h.cell 1030 (by omega)
theorem Sn.s_col(h:Sn w lo b F tb)(x:Int):Sn (w.setCell ⟨b,1030,none⟩ (.int .i64 x)) lo b {F with col:=x} tb:=by
 refine Sn.cong (F:=F) (LibA.IsBuffer.setOther h 1030 (by omega) (old:=.int .i64 F.col) rfl (.int .i64 x)) (funext fun j=>?_);by_cases hj:j=1030
 ·subst hj;rfl
 ·simp only[RF,hj,if_false]
theorem Sn.c_lll(h:Sn w lo b F tb):w.cell? ⟨b,1031,none⟩=some (.int .i64 F.lll):=h.cell 1031 (by omega)
theorem Sn.s_lll(h:Sn w lo b F tb)(x:Int):Sn (w.setCell ⟨b,1031,none⟩ (.int .i64 x)) lo b {F with lll:=x} tb:=by
 refine Sn.cong (F:=F) (LibA.IsBuffer.setOther h 1031 (by omega) (old:=.int .i64 F.lll) rfl (.int .i64 x)) (funext fun j=>?_);by_cases hj:j=1031
 ·subst hj;rfl
 ·simp only[RF,hj,if_false]
theorem Sn.c_lcl(h:Sn w lo b F tb):w.cell? ⟨b,1032,none⟩=some (.int .i64 F.lcl):=h.cell 1032 (by omega)
theorem Sn.s_lcl(h:Sn w lo b F tb)(x:Int):Sn (w.setCell ⟨b,1032,none⟩ (.int .i64 x)) lo b {F with lcl:=x} tb:=by
 refine Sn.cong (F:=F) (LibA.IsBuffer.setOther h 1032 (by omega) (old:=.int .i64 F.lcl) rfl (.int .i64 x)) (funext fun j=>?_);by_cases hj:j=1032
 ·subst hj;rfl
 ·simp only[RF,hj,if_false]
theorem Sn.c_tp(h:Sn w lo b F tb):w.cell? ⟨b,1036,none⟩=some (.int .i64 F.tp):=h.cell 1036 (by omega)
theorem Sn.s_tp(h:Sn w lo b F tb)(x:Int):Sn (w.setCell ⟨b,1036,none⟩ (.int .i64 x)) lo b {F with tp:=x} tb:=by
 refine Sn.cong (F:=F) (LibA.IsBuffer.setOther h 1036 (by omega) (old:=.int .i64 F.tp) rfl (.int .i64 x)) (funext fun j=>?_);by_cases hj:j=1036
 ·subst hj;rfl
 ·simp only[RF,hj,if_false]
theorem Sn.c_te(h:Sn w lo b F tb):w.cell? ⟨b,1037,none⟩=some (.int .i64 F.te):=h.cell 1037 (by omega)
theorem Sn.s_te(h:Sn w lo b F tb)(x:Int):Sn (w.setCell ⟨b,1037,none⟩ (.int .i64 x)) lo b {F with te:=x} tb:=by
 refine Sn.cong (F:=F) (LibA.IsBuffer.setOther h 1037 (by omega) (old:=.int .i64 F.te) rfl (.int .i64 x)) (funext fun j=>?_);by_cases hj:j=1037
 ·subst hj;rfl
 ·simp only[RF,hj,if_false]
theorem Sn.c_ch(h:Sn w lo b F tb):w.cell? ⟨b,1038,none⟩=some (.int .i32 F.ch):=h.cell 1038 (by omega)
theorem Sn.s_ch(h:Sn w lo b F tb)(x:Int):Sn (w.setCell ⟨b,1038,none⟩ (.int .i32 x)) lo b {F with ch:=x} tb:=by
 refine Sn.cong (F:=F) (LibA.IsBuffer.setOther h 1038 (by omega) (old:=.int .i32 F.ch) rfl (.int .i32 x)) (funext fun j=>?_);by_cases hj:j=1038
 ·subst hj;rfl
 ·simp only[RF,hj,if_false]
theorem Sn.c_er(h:Sn w lo b F tb):w.cell? ⟨b,1039,none⟩=some (F.er):=h.cell 1039 (by omega)
theorem Sn.s_er(h:Sn w lo b F tb)(x:Value):Sn (w.setCell ⟨b,1039,none⟩ (x)) lo b {F with er:=x} tb:=by
 refine Sn.cong (F:=F) (LibA.IsBuffer.setOther h 1039 (by omega) (old:=F.er) rfl (x)) (funext fun j=>?_);by_cases hj:j=1039
 ·subst hj;rfl
 ·simp only[RF,hj,if_false]
theorem Sn.c_pf(h:Sn w lo b F tb):w.cell? ⟨b,1040,none⟩=some (F.pf):=h.cell 1040 (by omega)
theorem Sn.c_po(h:Sn w lo b F tb):w.cell? ⟨b,1041,none⟩=some (.int .i64 F.po):=h.cell 1041 (by omega)
theorem Sn.s_po(h:Sn w lo b F tb)(x:Int):Sn (w.setCell ⟨b,1041,none⟩ (.int .i64 x)) lo b {F with po:=x} tb:=by
 refine Sn.cong (F:=F) (LibA.IsBuffer.setOther h 1041 (by omega) (old:=.int .i64 F.po) rfl (.int .i64 x)) (funext fun j=>?_);by_cases hj:j=1041
 ·subst hj;rfl
 ·simp only[RF,hj,if_false]
theorem Sn.c_pl(h:Sn w lo b F tb):w.cell? ⟨b,1042,none⟩=some (.int .i64 F.pl):=h.cell 1042 (by omega)
theorem Sn.s_pl(h:Sn w lo b F tb)(x:Int):Sn (w.setCell ⟨b,1042,none⟩ (.int .i64 x)) lo b {F with pl:=x} tb:=by
 refine Sn.cong (F:=F) (LibA.IsBuffer.setOther h 1042 (by omega) (old:=.int .i64 F.pl) rfl (.int .i64 x)) (funext fun j=>?_);by_cases hj:j=1042
 ·subst hj;rfl
 ·simp only[RF,hj,if_false]
theorem Sn.c_pc(h:Sn w lo b F tb):w.cell? ⟨b,1043,none⟩=some (.int .i64 F.pc):=h.cell 1043 (by omega)
theorem Sn.s_pc(h:Sn w lo b F tb)(x:Int):Sn (w.setCell ⟨b,1043,none⟩ (.int .i64 x)) lo b {F with pc:=x} tb:=by
 refine Sn.cong (F:=F) (LibA.IsBuffer.setOther h 1043 (by omega) (old:=.int .i64 F.pc) rfl (.int .i64 x)) (funext fun j=>?_);by_cases hj:j=1043
 ·subst hj;rfl
 ·simp only[RF,hj,if_false]
theorem Sn.s_buf(h:Sn w lo b F tb)(k:Nat)(hk:k≤1024)(x:UInt8):Sn (w.setCell ⟨b,1+k,none⟩ (.int .u8 (x.toNat:Int))) lo b {F with buf:=fun j=>if j=k then x else F.buf j} tb:=by
 refine Sn.cong (F:=F) (LibA.IsBuffer.setOther h (1+k) (by omega) (old:=.int .u8 ((F.buf k).toNat:Int)) ?_ (.int .u8 (x.toNat:Int))) (funext fun j=>?_)
 ·unfold RF
  rw[if_neg (by omega),if_pos (by omega),show 1+k-1=k by omega]
 by_cases hj:j=1+k
 ·subst hj
  unfold RF;rw[if_pos rfl,if_neg (by omega),if_pos (by omega)];simp
 ·rw[if_neg hj]
  unfold RF;by_cases h0:j=0
  ·rw[if_pos h0,if_pos h0]
  ·rw[if_neg h0,if_neg h0]
   by_cases h1:j≤1025
   ·rw[if_pos h1,if_pos h1]
    simp only;rw[if_neg (by omega)]
   ·rw[if_neg h1,if_neg h1]
def Vl.val:Vl→Value
 | .bool b=>.iface 252 (.bool b)
 | .long n=>.iface 253 (.int .i64 n)
 | .str s=>.iface 131 (.string s)
 | .uid t i=>.iface 167 (.agg #[.string t,.string i])
def Soft(w:World)(lo d:Nat):Prop:=d<lo∨w.heap.size≤d∨∃c T fr,w.heap[d]? =some (.cells c T fr)∧T≠136∧T≠221∧T≠316
theorem Soft.ne{w:World}{lo d b:Nat}{c:Array Value}{T:TypeId}{fr:Nat×Nat}(h:Soft w lo d)(hl:lo≤b)(hb:w.heap[b]? =some (.cells c T fr))(hT:T=136∨T=221∨T=316):d≠b:=by
 rintro rfl;rcases h with h | h | ⟨c',T',fr',h,h1,h2,h3⟩
 ·omega
 ·have:=Qad hb;omega
 ·rw[hb]at h;cases h
  rcases hT with h | h | h
  ·exact h1 h
  ·exact h2 h
  ·exact h3 h
def RowAt(w:World)(lo tag:Nat)(p:Option Addr)(n:Nat)(vs:Nat→Value):Prop :=
 n=0∨∃b off c fr,p=some ⟨b,off,none⟩∧lo≤b∧w.heap[b]? =some (.cells c tag fr)∧∀i,i<n→c[off+i]? =some (vs i)
theorem RowAt.ext{w w':World}{lo tag:Nat}{S:Nat→Prop}{p:Option Addr}{n:Nat}{vs:Nat→Value}(h:RowAt w lo tag p n vs)(ht:tag=136∨tag=221∨tag=316)(he:Ext S w w')(hs:∀d,S d→Soft w lo d):RowAt w' lo tag p n vs:=by
 rcases h with h | ⟨b,off,c,fr,h1,h2,h3,h4⟩
 ·exact .inl h
 ·exact .inr ⟨b,off,c,fr,h1,h2,he.heap (fun hS=>(hs _ hS).ne h2 h3 ht rfl) h3,h4⟩
theorem RowAt.mono{w:World}{lo lo' tag:Nat}{p:Option Addr}{n:Nat}{vs:Nat→Value}(h:RowAt w lo tag p n vs)(hl:lo'≤lo):RowAt w lo' tag p n vs:=by
 rcases h with h | ⟨b,off,c,fr,h1,h2,h3,h4⟩
 ·exact .inl h
 ·exact .inr ⟨b,off,c,fr,h1,by omega,h3,h4⟩
def Row2At(w:World)(lo tag:Nat)(p:Option Addr)(n:Nat)(us vs:Nat→Value):Prop :=
 n=0∨∃b off c fr,p=some ⟨b,off,none⟩∧lo≤b∧w.heap[b]? =some (.cells c tag fr)∧∀i,i<n→c[off+i*2]? =some (us i)∧c[off+i*2+1]? =some (vs i)
theorem Row2At.ext{w w':World}{lo tag:Nat}{S:Nat→Prop}{p:Option Addr}{n:Nat}{us vs:Nat→Value}(h:Row2At w lo tag p n us vs)(ht:tag=136∨tag=221∨tag=316)(he:Ext S w w')(hs:∀d,S d→Soft w lo d):Row2At w' lo tag p n us vs:=by
 rcases h with h | ⟨b,off,c,fr,h1,h2,h3,h4⟩
 ·exact .inl h
 ·exact .inr ⟨b,off,c,fr,h1,h2,he.heap (fun hS=>(hs _ hS).ne h2 h3 ht rfl) h3,h4⟩
theorem Row2At.mono{w:World}{lo lo' tag:Nat}{p:Option Addr}{n:Nat}{us vs:Nat→Value}(h:Row2At w lo tag p n us vs)(hl:lo'≤lo):Row2At w lo' tag p n us vs:=by
 rcases h with h | ⟨b,off,c,fr,h1,h2,h3,h4⟩
 ·exact .inl h
 ·exact .inr ⟨b,off,c,fr,h1,by omega,h3,h4⟩
inductive NodeIs(w:World)(lo:Nat):Value→Ex→Prop
 | val (v:Vl):NodeIs w lo (.iface 182 (.agg #[v.val])) (.val v)
 | var (s:ByteArray):NodeIs w lo (.iface 186 (.agg #[.string s])) (.var s)
 | ite (x y z:Value)(a b c:Ex)(h1:NodeIs w lo x a)(h2:NodeIs w lo y b)(h3:NodeIs w lo z c):NodeIs w lo (.iface 188 (.agg #[x,y,z])) (.ite a b c)
 | bin (op:Nat)(x y:Value)(a b:Ex)(h1:NodeIs w lo x a)(h2:NodeIs w lo y b):NodeIs w lo (.iface op (.agg #[x,y])) (.bin op a b)
 | una (op:Nat)(x:Value)(a:Ex)(h1:NodeIs w lo x a):NodeIs w lo (.iface op (.agg #[x])) (.una op a)
 | sop (op:Nat)(x:Value)(s:ByteArray)(a:Ex)(h1:NodeIs w lo x a):NodeIs w lo (.iface op (.agg #[x,.string s])) (.sop op a s)
 | isIn (x y:Value)(s:ByteArray)(a b:Ex)(h1:NodeIs w lo x a)(h2:NodeIs w lo y b):NodeIs w lo (.iface 204 (.agg #[x,.string s,y])) (.isIn a s b)
 | like (x:Value)(a:Ex)(l:List (Bool×ByteArray))(p:Option Addr)(c:Nat)(h1:NodeIs w lo x a)(hr:Row2At w lo 316 p l.length (fun i=>.bool (l.getD i (false,⟨#[]⟩)).1) (fun i=>.string (l.getD i (false,⟨#[]⟩)).2)) :
   NodeIs w lo (.iface 199 (.agg #[x,.slice p l.length c])) (.like a l)
 | call (s:ByteArray)(l:List Ex)(p:Option Addr)(c:Nat)(vs:Nat→Value)(hr:RowAt w lo 136 p l.length vs)(h:∀i a,l[i]? =some a→NodeIs w lo (vs i) a):NodeIs w lo (.iface 214 (.agg #[.string s,.slice p l.length c])) (.call s l)
 | set (l:List Ex)(p:Option Addr)(c:Nat)(vs:Nat→Value)(hr:RowAt w lo 136 p l.length vs)(h:∀i a,l[i]? =some a→NodeIs w lo (vs i) a):NodeIs w lo (.iface 216 (.agg #[.slice p l.length c])) (.set l)
 | recd (l:List (ByteArray×Ex))(p:Option Addr)(c:Nat)(vs:Nat→Value)(hr:Row2At w lo 221 p l.length (fun i=>.string (l.getD i (⟨#[]⟩,.set [])).1) vs)(h:∀i a,l[i]? =some a→NodeIs w lo (vs i) a.2) :
   NodeIs w lo (.iface 219 (.agg #[.slice p l.length c])) (.recd l)
theorem NodeIs.ext{w w':World}{lo:Nat}{S:Nat→Prop}{v:Value}{x:Ex}(h:NodeIs w lo v x)(he:Ext S w w')(hs:∀d,S d→Soft w lo d):NodeIs w' lo v x:=by
 induction h with
 | val v=>exact .val v
 | var s=>exact .var s
 | ite x y z a b c _ _ _ i1 i2 i3=>exact .ite x y z a b c i1 i2 i3
 | bin op x y a b _ _ i1 i2=>exact .bin op x y a b i1 i2
 | una op x a _ i1=>exact .una op x a i1
 | sop op x s a _ i1=>exact .sop op x s a i1
 | isIn x y s a b _ _ i1 i2=>exact .isIn x y s a b i1 i2
 | like x a l p c _ hr i1=>exact .like x a l p c i1 (hr.ext (by simp) he hs)
 | call s l p c vs hr _ ih=>exact .call s l p c vs (hr.ext (by simp) he hs) ih
 | set l p c vs hr _ ih=>exact .set l p c vs (hr.ext (by simp) he hs) ih
 | recd l p c vs hr _ ih=>exact .recd l p c vs (hr.ext (by simp) he hs) ih
theorem NodeIs.mono{w:World}{lo lo':Nat}{v:Value}{x:Ex}(h:NodeIs w lo v x)(hl:lo'≤lo):NodeIs w lo' v x:=by
 induction h with
 | val v=>exact .val v
 | var s=>exact .var s
 | ite x y z a b c _ _ _ i1 i2 i3=>exact .ite x y z a b c i1 i2 i3
 | bin op x y a b _ _ i1 i2=>exact .bin op x y a b i1 i2
 | una op x a _ i1=>exact .una op x a i1
 | sop op x s a _ i1=>exact .sop op x s a i1
 | isIn x y s a b _ _ i1 i2=>exact .isIn x y s a b i1 i2
 | like x a l p c _ hr i1=>exact .like x a l p c i1 (hr.mono hl)
 | call s l p c vs hr _ ih=>exact .call s l p c vs (hr.mono hl) ih
 | set l p c vs hr _ ih=>exact .set l p c vs (hr.mono hl) ih
 | recd l p c vs hr _ ih=>exact .recd l p c vs (hr.mono hl) ih
theorem NodeIs.iface{w:World}{lo:Nat}{v:Value}{x:Ex}(h:NodeIs w lo v x):∃T y,v=.iface T y:=by
 cases h<;>exact⟨_,_,rfl⟩
end Go.Proofs.Pg
