/- FnComma: a last comma changes nothing; for every world. Part 26. -/
import Derived.Test.YtmhjkkkhdlnngaaGreatDoorZ15
import Derived.Lib.BufferAt
import Derived.LoopTactic
import Derived.RegionTactic
import Derived.ChangeAlike
import Derived.Deep.DeepCutAuto
import Derived.Lib.OthersKept
import Derived.Lib.BufferOwn
import Derived.Lib.BufferSrc
import Derived.Laws.IdiomCopy
import Derived.BigCall
import Derived.BigGuard
set_option linter.all false
set_option maxRecDepth 100000
set_option maxHeartbeats 40000000
namespace Go.Proofs.Pg
open Go.RowKit
structure Fd where
 src:Value
 buf:Nat→UInt8
 pos:Int
 en:Int
 off:Int
 ln:Int
 col:Int
 lll:Int
 lcl:Int
 tp:Int
 te:Int
 ch:Int
 er:Value
 pf:Value
 po:Int
 pl:Int
 pc:Int
def RF(F:Fd)(i:Nat):Option Value :=
 if i=0 then some F.src else if i≤1025 then some (.int .u8 ((F.buf (i-1)).toNat:Int))else if i=1026 then some (.int .i64 F.pos)else if i=1027 then some (.int .i64 F.en)else if i=1028 then some (.int .i64 F.off)
 else if i=1029 then some (.int .i64 F.ln)else if i=1030 then some (.int .i64 F.col)else if i=1031 then some (.int .i64 F.lll)else if i=1032 then some (.int .i64 F.lcl)else if i<1036 then none else if i=1036 then some (.int .i64 F.tp)
 else if i=1037 then some (.int .i64 F.te)else if i=1038 then some (.int .i32 F.ch)else if i=1039 then some F.er else if i=1040 then some F.pf else if i=1041 then some (.int .i64 F.po)else if i=1042 then some (.int .i64 F.pl)
 else if i=1043 then some (.int .i64 F.pc)else none
def Sn(w:World)(lo b:Nat)(F:Fd)(tb:List UInt8):Prop:=LibA.IsBuffer 249 (RF F) 5 lo b 1033 (Lib.byteCells tb) w
variable {w w':World}{lo b:Nat}{F:Fd}{tb:List UInt8}
theorem Sn.lt(h:Sn w lo b F tb):b<w.heap.size:=LibA.IsBuffer.lt h
theorem Sn.cell(h:Sn w lo b F tb)(i:Nat)(hi:i<1033∨1036≤i):w.cell? ⟨b,i,none⟩=RF F i:=LibA.IsBuffer.rest h i hi
theorem Sn.free(h:Sn w lo b F tb)(i:Nat):w.frozen? ⟨b,i,none⟩=false:=LibA.IsBuffer.notFrozen h i
theorem Sn.bufAt(h:Sn w lo b F tb)(j:Nat)(hj:j≤1024):w.cell? ⟨b,1+j,none⟩=some (.int .u8 ((F.buf j).toNat:Int)):=by
 rw[h.cell (1+j) (by omega)];unfold RF;rw[if_neg (by omega),if_pos (by omega),show 1+j-1=j by omega]
theorem Sn.cong{F G:Fd}{R:Nat→Option Value}(h:LibA.IsBuffer 249 R 5 lo b 1033 (Lib.byteCells tb) w)(e:R=RF G):Sn w lo b G tb:=by unfold Sn;rw[←e];exact h
theorem Sn.drew(h:Sn w lo b F tb):Sn w.drew lo b F tb:=h
theorem Sn.drewN(h:Sn w lo b F tb)(n:Nat):Sn (w.drewN n) lo b F tb:=h
theorem Sn.alloc(h:Sn w lo b F tb)(x:Obj):Sn (w.alloc x) lo b F tb:=LibA.IsBuffer.alloc h x
theorem Sn.old(h:Sn w lo b F tb)(hb:Below w.heap.size w w'):Sn w' lo b F tb:=LibA.IsBuffer.old h hb
theorem Sn.c_src(h:Sn w lo b F tb):w.cell? ⟨b,0,none⟩=some (F.src):=h.cell 0 (by omega)
theorem Sn.s_src(h:Sn w lo b F tb)(x:Value):Sn (w.setCell ⟨b,0,none⟩ (x)) lo b {F with src:=x} tb:=by
 refine Sn.cong (F:=F) (LibA.IsBuffer.setOther h 0 (by omega) (old:=F.src) rfl (x)) (funext fun j=>?_);by_cases hj:j=0
 ·subst hj;rfl
 ·simp only[RF,hj,if_false]
theorem Sn.c_pos(h:Sn w lo b F tb):w.cell? ⟨b,1026,none⟩=some (.int .i64 F.pos):=h.cell 1026 (by omega)
theorem Sn.s_pos(h:Sn w lo b F tb)(x:Int):Sn (w.setCell ⟨b,1026,none⟩ (.int .i64 x)) lo b {F with pos:=x} tb:=by
 refine Sn.cong (F:=F) (LibA.IsBuffer.setOther h 1026 (by omega) (old:=.int .i64 F.pos) rfl (.int .i64 x)) (funext fun j=>?_);by_cases hj:j=1026
 ·subst hj;rfl
 ·simp only[RF,hj,if_false]
theorem Sn.c_en(h:Sn w lo b F tb):w.cell? ⟨b,1027,none⟩=some (.int .i64 F.en):=h.cell 1027 (by omega)
theorem Sn.s_en(h:Sn w lo b F tb)(x:Int):Sn (w.setCell ⟨b,1027,none⟩ (.int .i64 x)) lo b {F with en:=x} tb:=by
 refine Sn.cong (F:=F) (LibA.IsBuffer.setOther h 1027 (by omega) (old:=.int .i64 F.en) rfl (.int .i64 x)) (funext fun j=>?_);by_cases hj:j=1027
 ·subst hj;rfl
 ·simp only[RF,hj,if_false]
theorem Sn.c_off(h:Sn w lo b F tb):w.cell? ⟨b,1028,none⟩=some (.int .i64 F.off):=h.cell 1028 (by omega)
theorem Sn.s_off(h:Sn w lo b F tb)(x:Int):Sn (w.setCell ⟨b,1028,none⟩ (.int .i64 x)) lo b {F with off:=x} tb:=by
 refine Sn.cong (F:=F) (LibA.IsBuffer.setOther h 1028 (by omega) (old:=.int .i64 F.off) rfl (.int .i64 x)) (funext fun j=>?_);by_cases hj:j=1028
 ·subst hj;rfl
 ·simp only[RF,hj,if_false]
theorem Sn.c_ln(h:Sn w lo b F tb):w.cell? ⟨b,1029,none⟩=some (.int .i64 F.ln):=h.cell 1029 (by omega)
theorem Sn.s_ln(h:Sn w lo b F tb)(x:Int):Sn (w.setCell ⟨b,1029,none⟩ (.int .i64 x)) lo b {F with ln:=x} tb:=by
 refine Sn.cong (F:=F) (LibA.IsBuffer.setOther h 1029 (by omega) (old:=.int .i64 F.ln) rfl (.int .i64 x)) (funext fun j=>?_);by_cases hj:j=1029
 ·subst hj;rfl
 ·simp only[RF,hj,if_false]
theorem Sn.c_col(h:Sn w lo b F tb):w.cell? ⟨b,1030,none⟩=some (.int .i64 F.col):=h.cell 1030 (by omega)
theorem Sn.s_col(h:Sn w lo b F tb)(x:Int):Sn (w.setCell ⟨b,1030,none⟩ (.int .i64 x)) lo b {F with col:=x} tb:=by
 refine Sn.cong (F:=F) (LibA.IsBuffer.setOther h 1030 (by omega) (old:=.int .i64 F.col) rfl (.int .i64 x)) (funext fun j=>?_);by_cases hj:j=1030
 ·subst hj;rfl
 ·simp only[RF,hj,if_false]
theorem Sn.c_lll(h:Sn w lo b F tb):w.cell? ⟨b,1031,none⟩=some (.int .i64 F.lll):=h.cell 1031 (by omega)
theorem Sn.s_lll(h:Sn w lo b F tb)(x:Int):Sn (w.setCell ⟨b,1031,none⟩ (.int .i64 x)) lo b {F with lll:=x} tb:=by
 refine Sn.cong (F:=F) (LibA.IsBuffer.setOther h 1031 (by omega) (old:=.int .i64 F.lll) rfl (.int .i64 x)) (funext fun j=>?_);by_cases hj:j=1031
 ·subst hj;rfl
 ·simp only[RF,hj,if_false]
theorem Sn.c_lcl(h:Sn w lo b F tb):w.cell? ⟨b,1032,none⟩=some (.int .i64 F.lcl):=h.cell 1032 (by omega)
theorem Sn.s_lcl(h:Sn w lo b F tb)(x:Int):Sn (w.setCell ⟨b,1032,none⟩ (.int .i64 x)) lo b {F with lcl:=x} tb:=by
 refine Sn.cong (F:=F) (LibA.IsBuffer.setOther h 1032 (by omega) (old:=.int .i64 F.lcl) rfl (.int .i64 x)) (funext fun j=>?_);by_cases hj:j=1032
 ·subst hj;rfl
 ·simp only[RF,hj,if_false]
theorem Sn.c_tp(h:Sn w lo b F tb):w.cell? ⟨b,1036,none⟩=some (.int .i64 F.tp):=h.cell 1036 (by omega)
theorem Sn.s_tp(h:Sn w lo b F tb)(x:Int):Sn (w.setCell ⟨b,1036,none⟩ (.int .i64 x)) lo b {F with tp:=x} tb:=by
 refine Sn.cong (F:=F) (LibA.IsBuffer.setOther h 1036 (by omega) (old:=.int .i64 F.tp) rfl (.int .i64 x)) (funext fun j=>?_);by_cases hj:j=1036
 ·subst hj;rfl
 ·simp only[RF,hj,if_false]
theorem Sn.c_te(h:Sn w lo b F tb):w.cell? ⟨b,1037,none⟩=some (.int .i64 F.te):=h.cell 1037 (by omega)
theorem Sn.s_te(h:Sn w lo b F tb)(x:Int):Sn (w.setCell ⟨b,1037,none⟩ (.int .i64 x)) lo b {F with te:=x} tb:=by
 refine Sn.cong (F:=F) (LibA.IsBuffer.setOther h 1037 (by omega) (old:=.int .i64 F.te) rfl (.int .i64 x)) (funext fun j=>?_);by_cases hj:j=1037
 ·subst hj;rfl
 ·simp only[RF,hj,if_false]
theorem Sn.c_ch(h:Sn w lo b F tb):w.cell? ⟨b,1038,none⟩=some (.int .i32 F.ch):=h.cell 1038 (by omega)
theorem Sn.s_ch(h:Sn w lo b F tb)(x:Int):Sn (w.setCell ⟨b,1038,none⟩ (.int .i32 x)) lo b {F with ch:=x} tb:=by
 refine Sn.cong (F:=F) (LibA.IsBuffer.setOther h 1038 (by omega) (old:=.int .i32 F.ch) rfl (.int .i32 x)) (funext fun j=>?_);by_cases hj:j=1038
 ·subst hj;rfl
 ·simp only[RF,hj,if_false]
theorem Sn.c_er(h:Sn w lo b F tb):w.cell? ⟨b,1039,none⟩=some (F.er):=h.cell 1039 (by omega)
theorem Sn.s_er(h:Sn w lo b F tb)(x:Value):Sn (w.setCell ⟨b,1039,none⟩ (x)) lo b {F with er:=x} tb:=by
 refine Sn.cong (F:=F) (LibA.IsBuffer.setOther h 1039 (by omega) (old:=F.er) rfl (x)) (funext fun j=>?_);by_cases hj:j=1039
 ·subst hj;rfl
 ·simp only[RF,hj,if_false]
theorem Sn.c_pf(h:Sn w lo b F tb):w.cell? ⟨b,1040,none⟩=some (F.pf):=h.cell 1040 (by omega)
theorem Sn.c_po(h:Sn w lo b F tb):w.cell? ⟨b,1041,none⟩=some (.int .i64 F.po):=h.cell 1041 (by omega)
theorem Sn.s_po(h:Sn w lo b F tb)(x:Int):Sn (w.setCell ⟨b,1041,none⟩ (.int .i64 x)) lo b {F with po:=x} tb:=by
 refine Sn.cong (F:=F) (LibA.IsBuffer.setOther h 1041 (by omega) (old:=.int .i64 F.po) rfl (.int .i64 x)) (funext fun j=>?_);by_cases hj:j=1041
 ·subst hj;rfl
 ·simp only[RF,hj,if_false]
theorem Sn.c_pl(h:Sn w lo b F tb):w.cell? ⟨b,1042,none⟩=some (.int .i64 F.pl):=h.cell 1042 (by omega)
theorem Sn.s_pl(h:Sn w lo b F tb)(x:Int):Sn (w.setCell ⟨b,1042,none⟩ (.int .i64 x)) lo b {F with pl:=x} tb:=by
 refine Sn.cong (F:=F) (LibA.IsBuffer.setOther h 1042 (by omega) (old:=.int .i64 F.pl) rfl (.int .i64 x)) (funext fun j=>?_);by_cases hj:j=1042
 ·subst hj;rfl
 ·simp only[RF,hj,if_false]
theorem Sn.c_pc(h:Sn w lo b F tb):w.cell? ⟨b,1043,none⟩=some (.int .i64 F.pc):=h.cell 1043 (by omega)
theorem Sn.s_pc(h:Sn w lo b F tb)(x:Int):Sn (w.setCell ⟨b,1043,none⟩ (.int .i64 x)) lo b {F with pc:=x} tb:=by
 refine Sn.cong (F:=F) (LibA.IsBuffer.setOther h 1043 (by omega) (old:=.int .i64 F.pc) rfl (.int .i64 x)) (funext fun j=>?_);by_cases hj:j=1043
 ·subst hj;rfl
 ·simp only[RF,hj,if_false]
theorem Sn.s_buf(h:Sn w lo b F tb)(k:Nat)(hk:k≤1024)(x:UInt8):Sn (w.setCell ⟨b,1+k,none⟩ (.int .u8 (x.toNat:Int))) lo b {F with buf:=fun j=>if j=k then x else F.buf j} tb:=by
 refine Sn.cong (F:=F) (LibA.IsBuffer.setOther h (1+k) (by omega) (old:=.int .u8 ((F.buf k).toNat:Int)) ?_ (.int .u8 (x.toNat:Int))) (funext fun j=>?_)
 ·unfold RF
  rw[if_neg (by omega),if_pos (by omega),show 1+k-1=k by omega]
 by_cases hj:j=1+k
 ·subst hj
  unfold RF;rw[if_pos rfl,if_neg (by omega),if_pos (by omega)];simp
 ·rw[if_neg hj]
  unfold RF;by_cases h0:j=0
  ·rw[if_pos h0,if_pos h0]
  ·rw[if_neg h0,if_neg h0]
   by_cases h1:j≤1025
   ·rw[if_pos h1,if_pos h1]
    simp only;rw[if_neg (by omega)]
   ·rw[if_neg h1,if_neg h1]
end Go.Proofs.Pg
namespace Go.Proofs.Pg
open Go.RowKit Go.Lib
attribute [local go_sem] Oper.semAt_some
def dec(l:List UInt8):Nat×Nat:=if l.length=0 then(65533,0)else decodeN l.length (l.getD 0 0).toNat (l.getD 1 0).toNat (l.getD 2 0).toNat (l.getD 3 0).toNat
def BytesAt(w:World)(b off:Nat)(l:List UInt8):Prop:=∀j,j<l.length→w.cell? ⟨b,off+j,none⟩=some (.int .u8 ((l.getD j 0).toNat:Int))
theorem slow182(l:List UInt8)(b off cap:Nat)(w:World)(hT:Utf8Tabs 1 2 w)(hc:BytesAt w b off l)(hb:b<w.heap.size) :
  Calls Tryz.prog 182 #[.slice (some ⟨b,off,none⟩) l.length cap] w fun e w'=>e=.returned (.tuple #[.int .i32 (dec l).1,.int .i64 (dec l).2])∧Below w.heap.size w w':=by
 obtain⟨x0,hx0⟩:∃x0,(l.getD 0 0)=x0:=⟨_,rfl⟩
 obtain⟨x1,hx1⟩:∃x1,(l.getD 1 0)=x1:=⟨_,rfl⟩
 obtain⟨x2,hx2⟩:∃x2,(l.getD 2 0)=x2:=⟨_,rfl⟩
 obtain⟨x3,hx3⟩:∃x3,(l.getD 3 0)=x3:=⟨_,rfl⟩
 have c0:0<l.length→w.cell? ⟨b,off,none⟩=some (.int .u8 (x0.toNat:Int)):=fun h=>hx0▸hc 0 h
 have c1:1<l.length→w.cell? ⟨b,off+1,none⟩=some (.int .u8 (x1.toNat:Int)):=fun h=>hx1▸hc 1 h
 have c2:2<l.length→w.cell? ⟨b,off+2,none⟩=some (.int .u8 (x2.toNat:Int)):=fun h=>hx2▸hc 2 h
 have c3:3<l.length→w.cell? ⟨b,off+3,none⟩=some (.int .u8 (x3.toNat:Int)):=fun h=>hx3▸hc 3 h
 have l0:=x0.toNat_lt;have l1:=x1.toNat_lt;have l2:=x2.toNat_lt;have l3:=x3.toNat_lt;unfold dec;rw[hx0,hx1,hx2,hx3];generalize l.length=n at *;clear hc hx0 hx1 hx2 hx3;by_cases h0:n=0
 ·have hz:(n:Int)<1:=by omega
  simp only[h0,if_true];subst h0;go_enter Tryz.func182,Tryz.ntmps182;go_wp2
  go_ret2
  exact⟨rfl,Below.refl _ _⟩
 ·have hz0:(0:Int)<(n:Int):=by omega
  have hz0':¬((n:Int)<1):=by omega
  have hz0'':0<n:=by omega
  simp only[h0,if_false];have d0:=c0 hz0'';have hc0:=hT.1 x0.toNat (by omega);have hres:firstT x0.toNat<240→decodeN n x0.toNat x1.toNat x2.toNat x3.toNat=slowN n x0.toNat x1.toNat x2.toNat x3.toNat (firstT x0.toNat%8) (accLo (firstT x0.toNat / 16)) (accHi (firstT x0.toNat / 16)) :=
   fun h=>(Lib.slow_eq _ _ _ _ _ (by omega) (by omega) (by omega) (by omega) h).symm
  rcases Lib.firstT_cases x0.toNat with hX | hX | hX | hX | hX | hX | hX | hX | hX
  ·rw[Lib.ascii_eq _ _ _ _ _ hX]
   rw[hX]at hc0;clear hres hT hX h0 c0 c1 c2 c3;go_enter Tryz.func182,Tryz.ntmps182;go_wp2;rw[Utf8W.mask240,Utf8W.keep_byte ⟨x0.toNat,l0⟩]
   go_ret2
   exact⟨rfl,Below.refl _ _⟩
  ·rw[Lib.bad_eq _ _ _ _ _ (by omega) hX]
   rw[hX]at hc0;clear hres hT hX h0 c0 c1 c2 c3;go_enter Tryz.func182,Tryz.ntmps182;go_wp2;rw[Utf8W.mask241,Utf8W.drop_byte ⟨x0.toNat,l0⟩]
   go_ret2
   exact⟨rfl,Below.refl _ _⟩
  all_goals replace hres:=hres (by omega)
  ·
   rw[hX]at hc0 hres;have ha0:=(hT.2 0 (by omega)).1;have ha1:=(hT.2 0 (by omega)).2;simp only[accLo,accHi,Nat.reduceMul,Nat.reduceAdd,Nat.reduceEqDiff,if_true,if_false,Nat.reduceMod,Nat.reduceDiv]at ha0 ha1 hres;rw[hres];clear hres hT hX h0 c0;by_cases hn:n<2
   ·have hnz:(n:Int)<2:=by omega
    clear c1 c2 c3;go_enter Tryz.func182,Tryz.ntmps182;go_wp2
    all_goals(go_ret2;refine⟨?_,(Below.refl _ _).alloc (Nat.le_refl _) _⟩;utf8_leaf)
   ·have hnz:¬(n:Int)<2:=by omega
    have hz1:(1:Int)<(n:Int):=by omega
    have hy1:1<n:=by omega
    have d1:=c1 hy1;clear c1 c2 c3;go_enter Tryz.func182,Tryz.ntmps182;go_wp2
    all_goals(go_ret2;refine⟨?_,(Below.refl _ _).alloc (Nat.le_refl _) _⟩;utf8_leaf)
  ·
   rw[hX]at hc0 hres;have ha0:=(hT.2 1 (by omega)).1;have ha1:=(hT.2 1 (by omega)).2;simp only[accLo,accHi,Nat.reduceMul,Nat.reduceAdd,Nat.reduceEqDiff,if_true,if_false,Nat.reduceMod,Nat.reduceDiv]at ha0 ha1 hres;rw[hres];clear hres hT hX h0 c0;by_cases hn:n<3
   ·have hnz:(n:Int)<3:=by omega
    clear c1 c2 c3;go_enter Tryz.func182,Tryz.ntmps182;go_wp2
    all_goals(go_ret2;refine⟨?_,(Below.refl _ _).alloc (Nat.le_refl _) _⟩;utf8_leaf)
   ·have hnz:¬(n:Int)<3:=by omega
    have hz1:(1:Int)<(n:Int):=by omega
    have hy1:1<n:=by omega
    have d1:=c1 hy1;have hz2:(2:Int)<(n:Int):=by omega
    have hy2:2<n:=by omega
    have d2:=c2 hy2;clear c1 c2 c3;go_enter Tryz.func182,Tryz.ntmps182;go_wp2
    all_goals(go_ret2;refine⟨?_,(Below.refl _ _).alloc (Nat.le_refl _) _⟩;utf8_leaf)
  ·
   rw[hX]at hc0 hres;have ha0:=(hT.2 0 (by omega)).1;have ha1:=(hT.2 0 (by omega)).2;simp only[accLo,accHi,Nat.reduceMul,Nat.reduceAdd,Nat.reduceEqDiff,if_true,if_false,Nat.reduceMod,Nat.reduceDiv]at ha0 ha1 hres;rw[hres];clear hres hT hX h0 c0;by_cases hn:n<3
   ·have hnz:(n:Int)<3:=by omega
    clear c1 c2 c3;go_enter Tryz.func182,Tryz.ntmps182;go_wp2
    all_goals(go_ret2;refine⟨?_,(Below.refl _ _).alloc (Nat.le_refl _) _⟩;utf8_leaf)
   ·have hnz:¬(n:Int)<3:=by omega
    have hz1:(1:Int)<(n:Int):=by omega
    have hy1:1<n:=by omega
    have d1:=c1 hy1;have hz2:(2:Int)<(n:Int):=by omega
    have hy2:2<n:=by omega
    have d2:=c2 hy2;clear c1 c2 c3;go_enter Tryz.func182,Tryz.ntmps182;go_wp2
    all_goals(go_ret2;refine⟨?_,(Below.refl _ _).alloc (Nat.le_refl _) _⟩;utf8_leaf)
  ·
   rw[hX]at hc0 hres;have ha0:=(hT.2 2 (by omega)).1;have ha1:=(hT.2 2 (by omega)).2;simp only[accLo,accHi,Nat.reduceMul,Nat.reduceAdd,Nat.reduceEqDiff,if_true,if_false,Nat.reduceMod,Nat.reduceDiv]at ha0 ha1 hres;rw[hres];clear hres hT hX h0 c0;by_cases hn:n<3
   ·have hnz:(n:Int)<3:=by omega
    clear c1 c2 c3;go_enter Tryz.func182,Tryz.ntmps182;go_wp2
    all_goals(go_ret2;refine⟨?_,(Below.refl _ _).alloc (Nat.le_refl _) _⟩;utf8_leaf)
   ·have hnz:¬(n:Int)<3:=by omega
    have hz1:(1:Int)<(n:Int):=by omega
    have hy1:1<n:=by omega
    have d1:=c1 hy1;have hz2:(2:Int)<(n:Int):=by omega
    have hy2:2<n:=by omega
    have d2:=c2 hy2;clear c1 c2 c3;go_enter Tryz.func182,Tryz.ntmps182;go_wp2
    all_goals(go_ret2;refine⟨?_,(Below.refl _ _).alloc (Nat.le_refl _) _⟩;utf8_leaf)
  ·
   rw[hX]at hc0 hres;have ha0:=(hT.2 3 (by omega)).1;have ha1:=(hT.2 3 (by omega)).2;simp only[accLo,accHi,Nat.reduceMul,Nat.reduceAdd,Nat.reduceEqDiff,if_true,if_false,Nat.reduceMod,Nat.reduceDiv]at ha0 ha1 hres;rw[hres];clear hres hT hX h0 c0;by_cases hn:n<4
   ·have hnz:(n:Int)<4:=by omega
    clear c1 c2 c3;go_enter Tryz.func182,Tryz.ntmps182;go_wp2
    all_goals(go_ret2;refine⟨?_,(Below.refl _ _).alloc (Nat.le_refl _) _⟩;utf8_leaf)
   ·have hnz:¬(n:Int)<4:=by omega
    have hz1:(1:Int)<(n:Int):=by omega
    have hy1:1<n:=by omega
    have d1:=c1 hy1;have hz2:(2:Int)<(n:Int):=by omega
    have hy2:2<n:=by omega
    have d2:=c2 hy2;have hz3:(3:Int)<(n:Int):=by omega
    have hy3:3<n:=by omega
    have d3:=c3 hy3;clear c1 c2 c3;go_enter Tryz.func182,Tryz.ntmps182;go_wp2
    all_goals(go_ret2;refine⟨?_,(Below.refl _ _).alloc (Nat.le_refl _) _⟩;utf8_leaf)
  ·
   rw[hX]at hc0 hres;have ha0:=(hT.2 0 (by omega)).1;have ha1:=(hT.2 0 (by omega)).2;simp only[accLo,accHi,Nat.reduceMul,Nat.reduceAdd,Nat.reduceEqDiff,if_true,if_false,Nat.reduceMod,Nat.reduceDiv]at ha0 ha1 hres;rw[hres];clear hres hT hX h0 c0;by_cases hn:n<4
   ·have hnz:(n:Int)<4:=by omega
    clear c1 c2 c3;go_enter Tryz.func182,Tryz.ntmps182;go_wp2
    all_goals(go_ret2;refine⟨?_,(Below.refl _ _).alloc (Nat.le_refl _) _⟩;utf8_leaf)
   ·have hnz:¬(n:Int)<4:=by omega
    have hz1:(1:Int)<(n:Int):=by omega
    have hy1:1<n:=by omega
    have d1:=c1 hy1;have hz2:(2:Int)<(n:Int):=by omega
    have hy2:2<n:=by omega
    have d2:=c2 hy2;have hz3:(3:Int)<(n:Int):=by omega
    have hy3:3<n:=by omega
    have d3:=c3 hy3;clear c1 c2 c3;go_enter Tryz.func182,Tryz.ntmps182;go_wp2
    all_goals(go_ret2;refine⟨?_,(Below.refl _ _).alloc (Nat.le_refl _) _⟩;utf8_leaf)
  ·
   rw[hX]at hc0 hres;have ha0:=(hT.2 4 (by omega)).1;have ha1:=(hT.2 4 (by omega)).2;simp only[accLo,accHi,Nat.reduceMul,Nat.reduceAdd,Nat.reduceEqDiff,if_true,if_false,Nat.reduceMod,Nat.reduceDiv]at ha0 ha1 hres;rw[hres];clear hres hT hX h0 c0;by_cases hn:n<4
   ·have hnz:(n:Int)<4:=by omega
    clear c1 c2 c3;go_enter Tryz.func182,Tryz.ntmps182;go_wp2
    all_goals(go_ret2;refine⟨?_,(Below.refl _ _).alloc (Nat.le_refl _) _⟩;utf8_leaf)
   ·have hnz:¬(n:Int)<4:=by omega
    have hz1:(1:Int)<(n:Int):=by omega
    have hy1:1<n:=by omega
    have d1:=c1 hy1;have hz2:(2:Int)<(n:Int):=by omega
    have hy2:2<n:=by omega
    have d2:=c2 hy2;have hz3:(3:Int)<(n:Int):=by omega
    have hy3:3<n:=by omega
    have d3:=c3 hy3;clear c1 c2 c3;go_enter Tryz.func182,Tryz.ntmps182;go_wp2
    all_goals(go_ret2;refine⟨?_,(Below.refl _ _).alloc (Nat.le_refl _) _⟩;utf8_leaf)
theorem Qau{B:Nat}{a w:World}(h:Below B a w)(n:Nat):Below B a (w.drewN n):=⟨h.os,h.tape,h.output,h.size,h.block⟩
theorem Qc2{n m x0 x1 x2 x3 y1 y2 y3:Nat}(h1:1≤n)(hm:n≤m)(l1:x1<256)(l2:x2<256)(l3:x3<256)(k1:y1<256)(k2:y2<256)(k3:y3<256)
  (e1:1<n→y1=x1)(e2:2<n→y2=x2)(e3:3<n→y3=x3)(hs:firstT x0%8≤n)(hx:x0<256):decodeN m x0 y1 y2 y3=decodeN n x0 x1 x2 x3:=by
 rcases Lib.firstT_cases x0 with hX | hX | hX | hX | hX | hX | hX | hX | hX
 ·rw[Lib.ascii_eq _ _ _ _ _ hX,Lib.ascii_eq _ _ _ _ _ hX]
 ·rw[Lib.bad_eq _ _ _ _ _ (by omega) hX,Lib.bad_eq _ _ _ _ _ (by omega) hX]
 all_goals
  rw[hX]at hs;rw[←Lib.slow_eq m x0 y1 y2 y3 (by omega) (by omega) (by omega) (by omega) (by omega),←Lib.slow_eq n x0 x1 x2 x3 (by omega) (by omega) (by omega) (by omega) (by omega)];rw[hX];have hh1:=e1 (by omega);subst hh1
  try (have hh2:=e2 (by omega);subst hh2)
  try (have hh3:=e3 (by omega);subst hh3)
  unfold slowN;simp only[accLo,accHi,Nat.reduceMul,Nat.reduceAdd,Nat.reduceEqDiff,if_true,if_false,Nat.reduceMod,Nat.reduceDiv]
  repeat' split
  all_goals first
   | rfl
   | (exfalso;omega)
theorem Qda{n x0 x1 x2 x3:Nat}(h:1≤n)(l1:x1<256)(l2:x2<256)(l3:x3<256)(hX:firstT x0<240)(hb:x1<accLo (firstT x0 / 16)∨accHi (firstT x0 / 16)<x1):decodeN n x0 x1 x2 x3=(65533,1):=by
 rw[←Lib.slow_eq n x0 x1 x2 x3 h l1 l2 l3 hX];unfold slowN;rw[if_pos hb];split<;>rfl
theorem Qdb{n x0 x1 x2 x3:Nat}(h:1≤n)(l1:x1<256)(l2:x2<256)(l3:x3<256)(hX:firstT x0<240)(hs:2<firstT x0%8)(hb:x2<128∨191<x2):decodeN n x0 x1 x2 x3=(65533,1):=by
 rw[←Lib.slow_eq n x0 x1 x2 x3 h l1 l2 l3 hX];unfold slowN;by_cases hs2:firstT x0%8≤2
 ·exact absurd hs (by omega)
 rw[if_pos hb,if_neg hs2];split
 ·rfl
 ·split<;>rfl
def Qhb(n x0 x1 x2 x3:Nat)(e:Ending):Prop:=∃r:Bool,e=.returned (.bool r)∧(r=true→∀m y1 y2 y3,n≤m→y1<256→y2<256→y3<256→(1<n→y1=x1)→(2<n→y2=x2)→(3<n→y3=x3)→decodeN m x0 y1 y2 y3=decodeN n x0 x1 x2 x3)
theorem full158(l:List UInt8)(b off cap:Nat)(w:World)(hT:Utf8Tabs 1 2 w)(hc:BytesAt w b off l)(hb:b<w.heap.size)(hz:l.length≠0) :
  Calls Tryz.prog 158 #[.slice (some ⟨b,off,none⟩) l.length cap] w fun e w'=>Qhb l.length (l.getD 0 0).toNat (l.getD 1 0).toNat (l.getD 2 0).toNat (l.getD 3 0).toNat e∧Below w.heap.size w w':=by
 obtain⟨x0,hx0⟩:∃x0,(l.getD 0 0)=x0:=⟨_,rfl⟩
 obtain⟨x1,hx1⟩:∃x1,(l.getD 1 0)=x1:=⟨_,rfl⟩
 obtain⟨x2,hx2⟩:∃x2,(l.getD 2 0)=x2:=⟨_,rfl⟩
 obtain⟨x3,hx3⟩:∃x3,(l.getD 3 0)=x3:=⟨_,rfl⟩
 have c0:0<l.length→w.cell? ⟨b,off,none⟩=some (.int .u8 (x0.toNat:Int)):=fun h=>hx0▸hc 0 h
 have c1:1<l.length→w.cell? ⟨b,off+1,none⟩=some (.int .u8 (x1.toNat:Int)):=fun h=>hx1▸hc 1 h
 have c2:2<l.length→w.cell? ⟨b,off+2,none⟩=some (.int .u8 (x2.toNat:Int)):=fun h=>hx2▸hc 2 h
 have c3:3<l.length→w.cell? ⟨b,off+3,none⟩=some (.int .u8 (x3.toNat:Int)):=fun h=>hx3▸hc 3 h
 have l0:=x0.toNat_lt;have l1:=x1.toNat_lt;have l2:=x2.toNat_lt;have l3:=x3.toNat_lt;rw[hx0,hx1,hx2,hx3];generalize l.length=n at *;clear hc hx0 hx1 hx2 hx3;have hz0'':0<n:=by omega
 have hzz:((n:Int)==0)=false:=by simp;omega
 have d0:=c0 hz0'';have hc0:=hT.1 x0.toNat (by omega);have hst:firstT x0.toNat%8≤n→∀e,e=Ending.returned (.bool true)→Qhb n x0.toNat x1.toNat x2.toNat x3.toNat e:=fun hs e he=>⟨true,he,fun _ m y1 y2 y3 hm k1 k2 k3 e1 e2 e3=>Qc2 (by omega) hm (by omega) (by omega) (by omega) k1 k2 k3 e1 e2 e3 hs (by omega)⟩
 have hno:∀e,e=Ending.returned (.bool false)→Qhb n x0.toNat x1.toNat x2.toNat x3.toNat e:=fun e he=>⟨false,he,fun h=>by cases h⟩
 have hb1:1<n→firstT x0.toNat<240→(x1.toNat<accLo (firstT x0.toNat / 16)∨accHi (firstT x0.toNat / 16)<x1.toNat)→∀e,e=Ending.returned (.bool true)→Qhb n x0.toNat x1.toNat x2.toNat x3.toNat e:=fun h1 hX hbad e he=>⟨true,he,fun _ m y1 y2 y3 hm k1 k2 k3 e1 e2 e3=>by
  rw[Qda (n:=n) (by omega) (by omega) (by omega) (by omega) hX hbad,e1 h1];exact Qda (by omega) (by omega) (by omega) (by omega) hX hbad⟩
 have hb2:2<n→firstT x0.toNat<240→2<firstT x0.toNat%8→(x2.toNat<128∨191<x2.toNat)→∀e,e=Ending.returned (.bool true)→Qhb n x0.toNat x1.toNat x2.toNat x3.toNat e:=fun h1 hX hs hbad e he=>⟨true,he,fun _ m y1 y2 y3 hm k1 k2 k3 e1 e2 e3=>by
  rw[Qdb (n:=n) (by omega) (by omega) (by omega) (by omega) hX hs hbad,e2 h1];exact Qdb (by omega) (by omega) (by omega) (by omega) hX hs hbad⟩
 have HST:=Hi hst;clear hst;have HNO:=Hi hno;clear hno;have HB1:=Hi hb1;clear hb1;have HB2:=Hi hb2;clear hb2;rcases Lib.firstT_cases x0.toNat with hX | hX | hX | hX | hX | hX | hX | hX | hX
 ·
  have HX:=Hi hX;rw[hX]at hc0;clear hT hX c0;by_cases hn:0≤n
  ·have hnz:(0:Int)≤(n:Int):=by omega
   have hnz2:¬(n:Int)<0:=by omega
   clear c1 c2 c3;go_enter Tryz.func158,Tryz.ntmps158;go_wp2;go_ret;exact⟨HST.out (by rw[HX.out];omega) _ rfl,Below.refl _ _⟩
  ·exact absurd hz0'' (by omega)
 ·
  have HX:=Hi hX;rw[hX]at hc0;clear hT hX c0;by_cases hn:1≤n
  ·have hnz:(1:Int)≤(n:Int):=by omega
   have hnz2:¬(n:Int)<1:=by omega
   clear c1 c2 c3;go_enter Tryz.func158,Tryz.ntmps158;go_wp2;go_ret;exact⟨HST.out (by rw[HX.out];omega) _ rfl,Below.refl _ _⟩
  ·exact absurd hz0'' (by omega)
 ·
  have HX:=Hi hX;rw[hX]at hc0;have ha0:=(hT.2 0 (by omega)).1;have ha1:=(hT.2 0 (by omega)).2;simp only[accLo,accHi,Nat.reduceMul,Nat.reduceAdd,Nat.reduceEqDiff,if_true,if_false,Nat.reduceMod,Nat.reduceDiv]at ha0 ha1;clear hT hX c0;by_cases hn:2≤n
  ·have hnz:(2:Int)≤(n:Int):=by omega
   have hnz2:¬(n:Int)<2:=by omega
   clear c1 c2 c3;go_enter Tryz.func158,Tryz.ntmps158;go_wp2;go_ret;exact⟨HST.out (by rw[HX.out];omega) _ rfl,Below.refl _ _⟩
  ·have hnz:¬(2:Int)≤(n:Int):=by omega
   have hnz2:(n:Int)<2:=by omega
   obtain rfl:n=1:=by omega
   ·clear hn hz hz0'' hzz
    clear c1 c2 c3;go_enter Tryz.func158,Tryz.ntmps158;go_wp2
    go_quiet (fail)
    go_wp2;go_ret;exact⟨HNO.out _ rfl,Qau ((Below.refl _ _).alloc (Nat.le_refl _) _) _⟩
 ·
  have HX:=Hi hX;rw[hX]at hc0;have ha0:=(hT.2 1 (by omega)).1;have ha1:=(hT.2 1 (by omega)).2;simp only[accLo,accHi,Nat.reduceMul,Nat.reduceAdd,Nat.reduceEqDiff,if_true,if_false,Nat.reduceMod,Nat.reduceDiv]at ha0 ha1;clear hT hX c0;by_cases hn:3≤n
  ·have hnz:(3:Int)≤(n:Int):=by omega
   have hnz2:¬(n:Int)<3:=by omega
   clear c1 c2 c3;go_enter Tryz.func158,Tryz.ntmps158;go_wp2;go_ret;exact⟨HST.out (by rw[HX.out];omega) _ rfl,Below.refl _ _⟩
  ·have hnz:¬(3:Int)≤(n:Int):=by omega
   have hnz2:(n:Int)<3:=by omega
   rcases(show n=1∨n=2 by omega)with rfl | rfl
   ·clear hn hz hz0'' hzz
    clear c1 c2 c3;go_enter Tryz.func158,Tryz.ntmps158;go_wp2
    go_quiet (fail)
    go_wp2;go_ret;exact⟨HNO.out _ rfl,Qau ((Below.refl _ _).alloc (Nat.le_refl _) _) _⟩
   ·clear hn hz hz0'' hzz
    have d1:=c1 (by omega);clear c1 c2 c3;by_cases p1:x1.toNat<160
    ·have q1:decide ((x1.toNat:Int)<160)=true:=decide_eq_true (by omega)
     go_enter Tryz.func158,Tryz.ntmps158;go_wp2
     go_quiet (fail)
     go_wp2;go_ret;exact⟨HB1.out (by omega) (by rw[HX.out];omega) (by rw[HX.out];exact .inl p1) _ rfl,Qau ((Below.refl _ _).alloc (Nat.le_refl _) _) _⟩
    have q1:decide ((x1.toNat:Int)<160)=false:=decide_eq_false (by omega);by_cases p2:191<x1.toNat
    ·have q2:decide (191<(x1.toNat:Int))=true:=decide_eq_true (by omega)
     go_enter Tryz.func158,Tryz.ntmps158;go_wp2
     go_quiet (fail)
     go_wp2;go_ret;exact⟨HB1.out (by omega) (by rw[HX.out];omega) (by rw[HX.out];exact .inr p2) _ rfl,Qau ((Below.refl _ _).alloc (Nat.le_refl _) _) _⟩
    have q2:decide (191<(x1.toNat:Int))=false:=decide_eq_false (by omega);go_enter Tryz.func158,Tryz.ntmps158;go_wp2
    go_quiet (fail)
    go_wp2;go_ret;exact⟨HNO.out _ rfl,Qau ((Below.refl _ _).alloc (Nat.le_refl _) _) _⟩
 ·
  have HX:=Hi hX;rw[hX]at hc0;have ha0:=(hT.2 0 (by omega)).1;have ha1:=(hT.2 0 (by omega)).2;simp only[accLo,accHi,Nat.reduceMul,Nat.reduceAdd,Nat.reduceEqDiff,if_true,if_false,Nat.reduceMod,Nat.reduceDiv]at ha0 ha1;clear hT hX c0;by_cases hn:3≤n
  ·have hnz:(3:Int)≤(n:Int):=by omega
   have hnz2:¬(n:Int)<3:=by omega
   clear c1 c2 c3;go_enter Tryz.func158,Tryz.ntmps158;go_wp2;go_ret;exact⟨HST.out (by rw[HX.out];omega) _ rfl,Below.refl _ _⟩
  ·have hnz:¬(3:Int)≤(n:Int):=by omega
   have hnz2:(n:Int)<3:=by omega
   rcases(show n=1∨n=2 by omega)with rfl | rfl
   ·clear hn hz hz0'' hzz
    clear c1 c2 c3;go_enter Tryz.func158,Tryz.ntmps158;go_wp2
    go_quiet (fail)
    go_wp2;go_ret;exact⟨HNO.out _ rfl,Qau ((Below.refl _ _).alloc (Nat.le_refl _) _) _⟩
   ·clear hn hz hz0'' hzz
    have d1:=c1 (by omega);clear c1 c2 c3;by_cases p1:x1.toNat<128
    ·have q1:decide ((x1.toNat:Int)<128)=true:=decide_eq_true (by omega)
     go_enter Tryz.func158,Tryz.ntmps158;go_wp2
     go_quiet (fail)
     go_wp2;go_ret;exact⟨HB1.out (by omega) (by rw[HX.out];omega) (by rw[HX.out];exact .inl p1) _ rfl,Qau ((Below.refl _ _).alloc (Nat.le_refl _) _) _⟩
    have q1:decide ((x1.toNat:Int)<128)=false:=decide_eq_false (by omega);by_cases p2:191<x1.toNat
    ·have q2:decide (191<(x1.toNat:Int))=true:=decide_eq_true (by omega)
     go_enter Tryz.func158,Tryz.ntmps158;go_wp2
     go_quiet (fail)
     go_wp2;go_ret;exact⟨HB1.out (by omega) (by rw[HX.out];omega) (by rw[HX.out];exact .inr p2) _ rfl,Qau ((Below.refl _ _).alloc (Nat.le_refl _) _) _⟩
    have q2:decide (191<(x1.toNat:Int))=false:=decide_eq_false (by omega);go_enter Tryz.func158,Tryz.ntmps158;go_wp2
    go_quiet (fail)
    go_wp2;go_ret;exact⟨HNO.out _ rfl,Qau ((Below.refl _ _).alloc (Nat.le_refl _) _) _⟩
 ·
  have HX:=Hi hX;rw[hX]at hc0;have ha0:=(hT.2 2 (by omega)).1;have ha1:=(hT.2 2 (by omega)).2;simp only[accLo,accHi,Nat.reduceMul,Nat.reduceAdd,Nat.reduceEqDiff,if_true,if_false,Nat.reduceMod,Nat.reduceDiv]at ha0 ha1;clear hT hX c0;by_cases hn:3≤n
  ·have hnz:(3:Int)≤(n:Int):=by omega
   have hnz2:¬(n:Int)<3:=by omega
   clear c1 c2 c3;go_enter Tryz.func158,Tryz.ntmps158;go_wp2;go_ret;exact⟨HST.out (by rw[HX.out];omega) _ rfl,Below.refl _ _⟩
  ·have hnz:¬(3:Int)≤(n:Int):=by omega
   have hnz2:(n:Int)<3:=by omega
   rcases(show n=1∨n=2 by omega)with rfl | rfl
   ·clear hn hz hz0'' hzz
    clear c1 c2 c3;go_enter Tryz.func158,Tryz.ntmps158;go_wp2
    go_quiet (fail)
    go_wp2;go_ret;exact⟨HNO.out _ rfl,Qau ((Below.refl _ _).alloc (Nat.le_refl _) _) _⟩
   ·clear hn hz hz0'' hzz
    have d1:=c1 (by omega);clear c1 c2 c3;by_cases p1:x1.toNat<128
    ·have q1:decide ((x1.toNat:Int)<128)=true:=decide_eq_true (by omega)
     go_enter Tryz.func158,Tryz.ntmps158;go_wp2
     go_quiet (fail)
     go_wp2;go_ret;exact⟨HB1.out (by omega) (by rw[HX.out];omega) (by rw[HX.out];exact .inl p1) _ rfl,Qau ((Below.refl _ _).alloc (Nat.le_refl _) _) _⟩
    have q1:decide ((x1.toNat:Int)<128)=false:=decide_eq_false (by omega);by_cases p2:159<x1.toNat
    ·have q2:decide (159<(x1.toNat:Int))=true:=decide_eq_true (by omega)
     go_enter Tryz.func158,Tryz.ntmps158;go_wp2
     go_quiet (fail)
     go_wp2;go_ret;exact⟨HB1.out (by omega) (by rw[HX.out];omega) (by rw[HX.out];exact .inr p2) _ rfl,Qau ((Below.refl _ _).alloc (Nat.le_refl _) _) _⟩
    have q2:decide (159<(x1.toNat:Int))=false:=decide_eq_false (by omega);go_enter Tryz.func158,Tryz.ntmps158;go_wp2
    go_quiet (fail)
    go_wp2;go_ret;exact⟨HNO.out _ rfl,Qau ((Below.refl _ _).alloc (Nat.le_refl _) _) _⟩
 ·
  have HX:=Hi hX;rw[hX]at hc0;have ha0:=(hT.2 3 (by omega)).1;have ha1:=(hT.2 3 (by omega)).2;simp only[accLo,accHi,Nat.reduceMul,Nat.reduceAdd,Nat.reduceEqDiff,if_true,if_false,Nat.reduceMod,Nat.reduceDiv]at ha0 ha1;clear hT hX c0;by_cases hn:4≤n
  ·have hnz:(4:Int)≤(n:Int):=by omega
   have hnz2:¬(n:Int)<4:=by omega
   clear c1 c2 c3;go_enter Tryz.func158,Tryz.ntmps158;go_wp2;go_ret;exact⟨HST.out (by rw[HX.out];omega) _ rfl,Below.refl _ _⟩
  ·have hnz:¬(4:Int)≤(n:Int):=by omega
   have hnz2:(n:Int)<4:=by omega
   rcases(show n=1∨n=2∨n=3 by omega)with rfl | rfl | rfl
   ·clear hn hz hz0'' hzz
    clear c1 c2 c3;go_enter Tryz.func158,Tryz.ntmps158;go_wp2
    go_quiet (fail)
    go_wp2;go_ret;exact⟨HNO.out _ rfl,Qau ((Below.refl _ _).alloc (Nat.le_refl _) _) _⟩
   ·clear hn hz hz0'' hzz
    have d1:=c1 (by omega);clear c1 c2 c3;by_cases p1:x1.toNat<144
    ·have q1:decide ((x1.toNat:Int)<144)=true:=decide_eq_true (by omega)
     go_enter Tryz.func158,Tryz.ntmps158;go_wp2
     go_quiet (fail)
     go_wp2;go_ret;exact⟨HB1.out (by omega) (by rw[HX.out];omega) (by rw[HX.out];exact .inl p1) _ rfl,Qau ((Below.refl _ _).alloc (Nat.le_refl _) _) _⟩
    have q1:decide ((x1.toNat:Int)<144)=false:=decide_eq_false (by omega);by_cases p2:191<x1.toNat
    ·have q2:decide (191<(x1.toNat:Int))=true:=decide_eq_true (by omega)
     go_enter Tryz.func158,Tryz.ntmps158;go_wp2
     go_quiet (fail)
     go_wp2;go_ret;exact⟨HB1.out (by omega) (by rw[HX.out];omega) (by rw[HX.out];exact .inr p2) _ rfl,Qau ((Below.refl _ _).alloc (Nat.le_refl _) _) _⟩
    have q2:decide (191<(x1.toNat:Int))=false:=decide_eq_false (by omega);go_enter Tryz.func158,Tryz.ntmps158;go_wp2
    go_quiet (fail)
    go_wp2;go_ret;exact⟨HNO.out _ rfl,Qau ((Below.refl _ _).alloc (Nat.le_refl _) _) _⟩
   ·clear hn hz hz0'' hzz
    have d1:=c1 (by omega);have d2:=c2 (by omega);clear c1 c2 c3;by_cases p1:x1.toNat<144
    ·have q1:decide ((x1.toNat:Int)<144)=true:=decide_eq_true (by omega)
     go_enter Tryz.func158,Tryz.ntmps158;go_wp2
     go_quiet (fail)
     go_wp2;go_ret;exact⟨HB1.out (by omega) (by rw[HX.out];omega) (by rw[HX.out];exact .inl p1) _ rfl,Qau ((Below.refl _ _).alloc (Nat.le_refl _) _) _⟩
    have q1:decide ((x1.toNat:Int)<144)=false:=decide_eq_false (by omega);by_cases p2:191<x1.toNat
    ·have q2:decide (191<(x1.toNat:Int))=true:=decide_eq_true (by omega)
     go_enter Tryz.func158,Tryz.ntmps158;go_wp2
     go_quiet (fail)
     go_wp2;go_ret;exact⟨HB1.out (by omega) (by rw[HX.out];omega) (by rw[HX.out];exact .inr p2) _ rfl,Qau ((Below.refl _ _).alloc (Nat.le_refl _) _) _⟩
    have q2:decide (191<(x1.toNat:Int))=false:=decide_eq_false (by omega);by_cases p3:x2.toNat<128
    ·have qp3:decide ((x2.toNat:Int)<128)=true:=decide_eq_true (by omega)
     go_enter Tryz.func158,Tryz.ntmps158;go_wp2
     go_quiet (fail)
     go_wp2;go_ret;exact⟨HB2.out (by omega) (by rw[HX.out];omega) (by rw[HX.out];omega) (.inl p3) _ rfl,Qau ((Below.refl _ _).alloc (Nat.le_refl _) _) _⟩
    have qp3:decide ((x2.toNat:Int)<128)=false:=decide_eq_false (by omega);by_cases p4:191<x2.toNat
    ·have qp4:decide (191<(x2.toNat:Int))=true:=decide_eq_true (by omega)
     go_enter Tryz.func158,Tryz.ntmps158;go_wp2
     go_quiet (fail)
     go_wp2;go_ret;exact⟨HB2.out (by omega) (by rw[HX.out];omega) (by rw[HX.out];omega) (.inr p4) _ rfl,Qau ((Below.refl _ _).alloc (Nat.le_refl _) _) _⟩
    have qp4:decide (191<(x2.toNat:Int))=false:=decide_eq_false (by omega);go_enter Tryz.func158,Tryz.ntmps158;go_wp2
    go_quiet (fail)
    go_wp2;go_ret;exact⟨HNO.out _ rfl,Qau ((Below.refl _ _).alloc (Nat.le_refl _) _) _⟩
 ·
  have HX:=Hi hX;rw[hX]at hc0;have ha0:=(hT.2 0 (by omega)).1;have ha1:=(hT.2 0 (by omega)).2;simp only[accLo,accHi,Nat.reduceMul,Nat.reduceAdd,Nat.reduceEqDiff,if_true,if_false,Nat.reduceMod,Nat.reduceDiv]at ha0 ha1;clear hT hX c0;by_cases hn:4≤n
  ·have hnz:(4:Int)≤(n:Int):=by omega
   have hnz2:¬(n:Int)<4:=by omega
   clear c1 c2 c3;go_enter Tryz.func158,Tryz.ntmps158;go_wp2;go_ret;exact⟨HST.out (by rw[HX.out];omega) _ rfl,Below.refl _ _⟩
  ·have hnz:¬(4:Int)≤(n:Int):=by omega
   have hnz2:(n:Int)<4:=by omega
   rcases(show n=1∨n=2∨n=3 by omega)with rfl | rfl | rfl
   ·clear hn hz hz0'' hzz
    clear c1 c2 c3;go_enter Tryz.func158,Tryz.ntmps158;go_wp2
    go_quiet (fail)
    go_wp2;go_ret;exact⟨HNO.out _ rfl,Qau ((Below.refl _ _).alloc (Nat.le_refl _) _) _⟩
   ·clear hn hz hz0'' hzz
    have d1:=c1 (by omega);clear c1 c2 c3;by_cases p1:x1.toNat<128
    ·have q1:decide ((x1.toNat:Int)<128)=true:=decide_eq_true (by omega)
     go_enter Tryz.func158,Tryz.ntmps158;go_wp2
     go_quiet (fail)
     go_wp2;go_ret;exact⟨HB1.out (by omega) (by rw[HX.out];omega) (by rw[HX.out];exact .inl p1) _ rfl,Qau ((Below.refl _ _).alloc (Nat.le_refl _) _) _⟩
    have q1:decide ((x1.toNat:Int)<128)=false:=decide_eq_false (by omega);by_cases p2:191<x1.toNat
    ·have q2:decide (191<(x1.toNat:Int))=true:=decide_eq_true (by omega)
     go_enter Tryz.func158,Tryz.ntmps158;go_wp2
     go_quiet (fail)
     go_wp2;go_ret;exact⟨HB1.out (by omega) (by rw[HX.out];omega) (by rw[HX.out];exact .inr p2) _ rfl,Qau ((Below.refl _ _).alloc (Nat.le_refl _) _) _⟩
    have q2:decide (191<(x1.toNat:Int))=false:=decide_eq_false (by omega);go_enter Tryz.func158,Tryz.ntmps158;go_wp2
    go_quiet (fail)
    go_wp2;go_ret;exact⟨HNO.out _ rfl,Qau ((Below.refl _ _).alloc (Nat.le_refl _) _) _⟩
   ·clear hn hz hz0'' hzz
    have d1:=c1 (by omega);have d2:=c2 (by omega);clear c1 c2 c3;by_cases p1:x1.toNat<128
    ·have q1:decide ((x1.toNat:Int)<128)=true:=decide_eq_true (by omega)
     go_enter Tryz.func158,Tryz.ntmps158;go_wp2
     go_quiet (fail)
     go_wp2;go_ret;exact⟨HB1.out (by omega) (by rw[HX.out];omega) (by rw[HX.out];exact .inl p1) _ rfl,Qau ((Below.refl _ _).alloc (Nat.le_refl _) _) _⟩
    have q1:decide ((x1.toNat:Int)<128)=false:=decide_eq_false (by omega);by_cases p2:191<x1.toNat
    ·have q2:decide (191<(x1.toNat:Int))=true:=decide_eq_true (by omega)
     go_enter Tryz.func158,Tryz.ntmps158;go_wp2
     go_quiet (fail)
     go_wp2;go_ret;exact⟨HB1.out (by omega) (by rw[HX.out];omega) (by rw[HX.out];exact .inr p2) _ rfl,Qau ((Below.refl _ _).alloc (Nat.le_refl _) _) _⟩
    have q2:decide (191<(x1.toNat:Int))=false:=decide_eq_false (by omega);by_cases p3:x2.toNat<128
    ·have qp3:decide ((x2.toNat:Int)<128)=true:=decide_eq_true (by omega)
     go_enter Tryz.func158,Tryz.ntmps158;go_wp2
     go_quiet (fail)
     go_wp2;go_ret;exact⟨HB2.out (by omega) (by rw[HX.out];omega) (by rw[HX.out];omega) (.inl p3) _ rfl,Qau ((Below.refl _ _).alloc (Nat.le_refl _) _) _⟩
    have qp3:decide ((x2.toNat:Int)<128)=false:=decide_eq_false (by omega);by_cases p4:191<x2.toNat
    ·have qp4:decide (191<(x2.toNat:Int))=true:=decide_eq_true (by omega)
     go_enter Tryz.func158,Tryz.ntmps158;go_wp2
     go_quiet (fail)
     go_wp2;go_ret;exact⟨HB2.out (by omega) (by rw[HX.out];omega) (by rw[HX.out];omega) (.inr p4) _ rfl,Qau ((Below.refl _ _).alloc (Nat.le_refl _) _) _⟩
    have qp4:decide (191<(x2.toNat:Int))=false:=decide_eq_false (by omega);go_enter Tryz.func158,Tryz.ntmps158;go_wp2
    go_quiet (fail)
    go_wp2;go_ret;exact⟨HNO.out _ rfl,Qau ((Below.refl _ _).alloc (Nat.le_refl _) _) _⟩
 ·
  have HX:=Hi hX;rw[hX]at hc0;have ha0:=(hT.2 4 (by omega)).1;have ha1:=(hT.2 4 (by omega)).2;simp only[accLo,accHi,Nat.reduceMul,Nat.reduceAdd,Nat.reduceEqDiff,if_true,if_false,Nat.reduceMod,Nat.reduceDiv]at ha0 ha1;clear hT hX c0;by_cases hn:4≤n
  ·have hnz:(4:Int)≤(n:Int):=by omega
   have hnz2:¬(n:Int)<4:=by omega
   clear c1 c2 c3;go_enter Tryz.func158,Tryz.ntmps158;go_wp2;go_ret;exact⟨HST.out (by rw[HX.out];omega) _ rfl,Below.refl _ _⟩
  ·have hnz:¬(4:Int)≤(n:Int):=by omega
   have hnz2:(n:Int)<4:=by omega
   rcases(show n=1∨n=2∨n=3 by omega)with rfl | rfl | rfl
   ·clear hn hz hz0'' hzz
    clear c1 c2 c3;go_enter Tryz.func158,Tryz.ntmps158;go_wp2
    go_quiet (fail)
    go_wp2;go_ret;exact⟨HNO.out _ rfl,Qau ((Below.refl _ _).alloc (Nat.le_refl _) _) _⟩
   ·clear hn hz hz0'' hzz
    have d1:=c1 (by omega);clear c1 c2 c3;by_cases p1:x1.toNat<128
    ·have q1:decide ((x1.toNat:Int)<128)=true:=decide_eq_true (by omega)
     go_enter Tryz.func158,Tryz.ntmps158;go_wp2
     go_quiet (fail)
     go_wp2;go_ret;exact⟨HB1.out (by omega) (by rw[HX.out];omega) (by rw[HX.out];exact .inl p1) _ rfl,Qau ((Below.refl _ _).alloc (Nat.le_refl _) _) _⟩
    have q1:decide ((x1.toNat:Int)<128)=false:=decide_eq_false (by omega);by_cases p2:143<x1.toNat
    ·have q2:decide (143<(x1.toNat:Int))=true:=decide_eq_true (by omega)
     go_enter Tryz.func158,Tryz.ntmps158;go_wp2
     go_quiet (fail)
     go_wp2;go_ret;exact⟨HB1.out (by omega) (by rw[HX.out];omega) (by rw[HX.out];exact .inr p2) _ rfl,Qau ((Below.refl _ _).alloc (Nat.le_refl _) _) _⟩
    have q2:decide (143<(x1.toNat:Int))=false:=decide_eq_false (by omega);go_enter Tryz.func158,Tryz.ntmps158;go_wp2
    go_quiet (fail)
    go_wp2;go_ret;exact⟨HNO.out _ rfl,Qau ((Below.refl _ _).alloc (Nat.le_refl _) _) _⟩
   ·clear hn hz hz0'' hzz
    have d1:=c1 (by omega);have d2:=c2 (by omega);clear c1 c2 c3;by_cases p1:x1.toNat<128
    ·have q1:decide ((x1.toNat:Int)<128)=true:=decide_eq_true (by omega)
     go_enter Tryz.func158,Tryz.ntmps158;go_wp2
     go_quiet (fail)
     go_wp2;go_ret;exact⟨HB1.out (by omega) (by rw[HX.out];omega) (by rw[HX.out];exact .inl p1) _ rfl,Qau ((Below.refl _ _).alloc (Nat.le_refl _) _) _⟩
    have q1:decide ((x1.toNat:Int)<128)=false:=decide_eq_false (by omega);by_cases p2:143<x1.toNat
    ·have q2:decide (143<(x1.toNat:Int))=true:=decide_eq_true (by omega)
     go_enter Tryz.func158,Tryz.ntmps158;go_wp2
     go_quiet (fail)
     go_wp2;go_ret;exact⟨HB1.out (by omega) (by rw[HX.out];omega) (by rw[HX.out];exact .inr p2) _ rfl,Qau ((Below.refl _ _).alloc (Nat.le_refl _) _) _⟩
    have q2:decide (143<(x1.toNat:Int))=false:=decide_eq_false (by omega);by_cases p3:x2.toNat<128
    ·have qp3:decide ((x2.toNat:Int)<128)=true:=decide_eq_true (by omega)
     go_enter Tryz.func158,Tryz.ntmps158;go_wp2
     go_quiet (fail)
     go_wp2;go_ret;exact⟨HB2.out (by omega) (by rw[HX.out];omega) (by rw[HX.out];omega) (.inl p3) _ rfl,Qau ((Below.refl _ _).alloc (Nat.le_refl _) _) _⟩
    have qp3:decide ((x2.toNat:Int)<128)=false:=decide_eq_false (by omega);by_cases p4:191<x2.toNat
    ·have qp4:decide (191<(x2.toNat:Int))=true:=decide_eq_true (by omega)
     go_enter Tryz.func158,Tryz.ntmps158;go_wp2
     go_quiet (fail)
     go_wp2;go_ret;exact⟨HB2.out (by omega) (by rw[HX.out];omega) (by rw[HX.out];omega) (.inr p4) _ rfl,Qau ((Below.refl _ _).alloc (Nat.le_refl _) _) _⟩
    have qp4:decide (191<(x2.toNat:Int))=false:=decide_eq_false (by omega);go_enter Tryz.func158,Tryz.ntmps158;go_wp2
    go_quiet (fail)
    go_wp2;go_ret;exact⟨HNO.out _ rfl,Qau ((Below.refl _ _).alloc (Nat.le_refl _) _) _⟩
end Go.Proofs.Pg
namespace Go.Proofs.Pg
open Go.RowKit
attribute [local go_sem] Oper.semAt_some
variable {w w':World}{lo b:Nat}{F:Fd}{tb:List UInt8}
theorem Ext.setb{b:Nat}{x y:World}(h:Ext (fun d=>d=b) x y)(o:Nat)(v:Value):Ext (fun d=>d=b) x (y.setCell ⟨b,o,none⟩ v):=h.set (.inl rfl) v
theorem Sn.hlo(h:Sn w lo b F tb):lo≤b:=h.1
theorem Qec(h:Sn w lo b F tb)(m:ByteArray)(hw:lo≤w.heap.size) :
  Calls Tryz.prog 160 #[.pointer (some ⟨b,0,none⟩),.string m] w fun e w'=>e=.returned (.tuple #[])∧(∃x T p,Sn w' lo b {F with te:=x,er:=.iface T p} tb)∧Ext (fun d=>d=b) w w':=by
 have hlt:=h.lt;have c0:=h.c_pos;have c1:=h.c_lcl;have c2:=h.c_te;have c3:=h.c_er;have f:=h.free 1037;have g:=h.free 1039;have H:=Hi h;clear h;go_enter Tryz.func160,Tryz.ntmps160;go_wp2
 go_region
 all_goals
  go_wp2_with fail
  refine(QaV _ _).mono ?_;rintro e w2⟨T,x,rfl,hb⟩;have h1:=((H.out.s_te _).drew).old hb;have lt2:=h1.lt;have d3:=h1.c_er;have f3:=h1.free 1039;have HB:=Hi hb;clear hb;have H1:=Hi h1;clear h1;go_wp2
  go_end0
  exact⟨rfl,⟨_,_,_,H1.out.s_er _⟩,(((Ext.refl (fun d=>d=b) w).setb _ _).drew.trans (.below HB.out)).setb _ _⟩
end Go.Proofs.Pg
namespace Go.Proofs.Pg
open Go.RowKit
structure Rdr where
 T:TypeId
 f:FuncId
 rb:Nat
 R:World→List UInt8→Prop
abbrev Rdr.ptr(r:Rdr):Value:=.pointer (some ⟨r.rb,0,none⟩)
abbrev Rdr.val(r:Rdr):Value:=.iface r.T r.ptr
def spl(cur:Array Value)(off:Nat)(l:List UInt8):Array Value:=(cur.toList.take off++Lib.byteCells l++cur.toList.drop (off+l.length)).toArray
def Got(r:Rdr)(w:World)(l:List UInt8)(b off n:Nat)(cur:Array Value)(T:TypeId)(e:Ending)(w':World):Prop :=
 ∃k:Nat,1≤k∧k≤n∧k≤l.length∧e=.returned (.tuple #[.int .i64 k,.nilIface])∧w'.heap[b]? =some (.cells (spl cur off (l.take k)) T (0,0))∧Ext (fun d=>d=r.rb∨d=b) w w'∧r.R w' (l.drop k)
structure RdLaw(r:Rdr)(lo:Nat):Prop where
 hrb:r.rb<lo
 h15:15≤r.rb
 ahead:∀w,(nilAhead 580 r.T r.ptr "Read").run Tryz.prog w=.ok (some false) w
 meth:∀w,(Go.method 580 r.T r.ptr "Read").run Tryz.prog w=.ok (r.f,r.ptr) w
 ent:∀args w,(callFunc r.f args).run Tryz.prog w=.ok (.enter r.f args) w
 keep:∀w w' l,r.R w l→Ext (fun d=>lo≤d) w w'→r.R w' l
 atEnd:∀w b off n cap q,r.R w []→n≠0→w.cell? ⟨0,0,none⟩=some q→Calls Tryz.prog r.f #[r.ptr,.slice (some ⟨b,off,none⟩) n cap] w fun e w'=>e=.returned (.tuple #[.int .i64 0,q])∧Ext (fun d=>d=r.rb) w w'∧r.R w' []
 more:∀w l b off n cap cur T,r.R w l→l≠[]→n≠0→n≤2000→lo≤b→w.heap[b]? =some (.cells cur T (0,0))→off+n≤cur.size→Calls Tryz.prog r.f #[r.ptr,.slice (some ⟨b,off,none⟩) n cap] w (Got r w l b off n cur T)
structure Sc where
 p:Nat
 ln:Int
 col:Int
 lll:Int
 lcl:Nat
 er:Bool
 ts:Option Nat
 ch:Int
 po:Int
 pl:Int
 pc:Int
def tokF(t:List UInt8)(off pos lcl:Nat)(tp:Int)(tb:List UInt8):Option Nat→Prop
 | none=>tp=-1
 | some s=>∃k:Nat,tp=k∧k+lcl≤pos∧s≤off+k∧tb=(t.drop s).take (off+k-s)
structure SWF(t:List UInt8)(r:Rdr)(σ:Sc)(q:Nat)(F:Fd)(tb:List UInt8)(off pos en:Nat):Prop where
 fsrc:F.src=r.val
 fpos:F.pos=pos
 fen:F.en=en
 foff:F.off=off
 le1:pos≤en
 le2:en≤1024
 hp:off+pos=σ.p
 len:off+en≤t.length
 buf:∀j,j<en→F.buf j=t.getD (off+j) 0
 sen:F.buf en=128
 fln:F.ln=σ.ln
 fcol:F.col=σ.col
 flll:F.lll=σ.lll
 flcl:F.lcl=σ.lcl
 lcle:q≤pos
 er0:σ.er=false→F.er=.nilIface
 er1:σ.er=true→∃T p,F.er=.iface T p
 fch:F.ch=σ.ch
 fpf:F.pf=.string ⟨#[]⟩
 fpo:F.po=σ.po
 fpl:F.pl=σ.pl
 fpc:F.pc=σ.pc
 tok:tokF t off pos q F.tp tb σ.ts
structure SWX(t:List UInt8)(r:Rdr)(lo b:Nat)(σ:Sc)(q:Nat)(w:World)(F:Fd)(tb:List UInt8)(off pos en:Nat):Prop where
 sn:Sn w lo b F tb
 wf:SWF t r σ q F tb off pos en
 rd:r.R w (t.drop (off+en))
 tabs:Lib.Utf8Tabs 1 2 w
 eof:∃a,w.cell? ⟨0,0,none⟩=some (.iface 346 (.pointer (some a)))
 hlo:lo≤w.heap.size
 h15:15≤lo
 hlen:t.length≤1000000
 law:RdLaw r lo
def SW(t:List UInt8)(r:Rdr)(lo b:Nat)(σ:Sc)(w:World):Prop:=∃F tb off pos en,SWX t r lo b σ σ.lcl w F tb off pos en
def nxt(t:List UInt8)(σ:Sc):Int×Sc :=
 if t.length≤σ.p then(-1,{σ with col:=if 0<σ.lcl then wrap64 (σ.col+1)else σ.col,lcl:=0})
 else if(dec (t.drop σ.p)).1=65533∧(dec (t.drop σ.p)).2=1 then(65533,{σ with p:=σ.p+1,lcl:=1,col:=wrap64 (σ.col+1),er:=true})
 else if(dec (t.drop σ.p)).1=0 then(0,{σ with p:=σ.p+(dec (t.drop σ.p)).2,lcl:=(dec (t.drop σ.p)).2,col:=wrap64 (σ.col+1),er:=true})
 else if(dec (t.drop σ.p)).1=10 then(10,{σ with p:=σ.p+(dec (t.drop σ.p)).2,lcl:=(dec (t.drop σ.p)).2,lll:=wrap64 (σ.col+1),col:=0,ln:=wrap64 (σ.ln+1)})
 else((dec (t.drop σ.p)).1,{σ with p:=σ.p+(dec (t.drop σ.p)).2,lcl:=(dec (t.drop σ.p)).2,col:=wrap64 (σ.col+1)})
def SB(rb b lo:Nat)(w:World):Nat→Prop:=fun d=>d=rb∨d=b∨(lo≤d∧∃c fr,w.heap[d]? =some (.cells c 5 fr))
def Fr(rb b lo:Nat)(w w':World):Prop:=Ext (SB rb b lo w) w w'
theorem Fr.refl(rb b lo:Nat)(w:World):Fr rb b lo w w:=Ext.refl _ _
theorem Fr.trans{rb b lo:Nat}{x y z:World}(h:Fr rb b lo x y)(k:Fr rb b lo y z):Fr rb b lo x z :=
 ⟨k.os.trans h.os,k.tape.trans h.tape,k.output.trans h.output,Nat.le_trans h.size k.size,fun d hd hs=>by
  have e:=h.block d hd hs;refine(k.block d (Nat.lt_of_lt_of_le hd h.size) ?_).trans e;rintro(rfl | rfl |⟨h1,c,fr,h2⟩)
  ·exact hs (.inl rfl)
  ·exact hs (.inr (.inl rfl))
  ·exact hs (.inr (.inr ⟨h1,c,fr,e▸h2⟩))⟩
theorem Fr.set{rb b lo:Nat}{x y:World}(h:Fr rb b lo x y)(o:Nat)(v:Value):Fr rb b lo x (y.setCell ⟨b,o,none⟩ v):=Ext.set h (.inl (.inr (.inl rfl))) v
theorem Fr.drew{rb b lo:Nat}{x y:World}(h:Fr rb b lo x y):Fr rb b lo x y.drew:=Ext.drew h
theorem Fr.drewN{rb b lo:Nat}{x y:World}(h:Fr rb b lo x y)(n:Nat):Fr rb b lo x (y.drewN n):=Ext.drewN h n
theorem Fr.alloc{rb b lo:Nat}{x y:World}(h:Fr rb b lo x y)(o:Obj):Fr rb b lo x (y.alloc o):=Ext.alloc h o
theorem Fr.below{rb b lo:Nat}{x y:World}(h:Below x.heap.size x y):Fr rb b lo x y:=Ext.below h
theorem Fr.kept{rb b lo:Nat}{x y:World}(h:Below lo x y)(k:Lib.OthersKept 5 (some b) x y):Fr rb b lo x y :=
 ⟨h.os,h.tape,h.output,h.size,fun d hd hs=>by
  by_cases hl:d<lo
  ·exact h.block d hl
  ·obtain⟨o,ho⟩:∃o,x.heap[d]? =some o:=⟨_,Array.getElem?_eq_getElem hd⟩
   rw[ho];refine k d o ho (fun e=>hs (.inr (.inl (Option.some.inj e)))) (fun c fz e=>hs (.inr (.inr ⟨by omega,c,fz,e▸ho⟩)))⟩
theorem Fr.rd{rb b lo:Nat}{x y:World}(h:Ext (fun d=>d=rb∨d=b) x y):Fr rb b lo x y:=h.mono fun d hd=>hd.elim .inl (fun e=>.inr (.inl e))
theorem Fr.toBelow{rb b lo:Nat}{x y:World}(h:Fr rb b lo x y)(hb:lo≤b){d:Nat}(hd:d<lo)(hr:d≠rb)(hx:lo≤x.heap.size):y.heap[d]? =x.heap[d]? :=
 h.block d (by omega) (by rintro (e | e | ⟨e,_⟩)<;>omega)
def Qdd(t:List UInt8)(r:Rdr)(lo b:Nat)(σ:Sc)(w:World)(e:Ending)(w':World):Prop :=
 e=.returned (.int .i32 (nxt t σ).1)∧SW t r lo b (nxt t σ).2 w'∧Fr r.rb b lo w w'
theorem Qba{P:Program}{c:Code}{Q:Exit→Act→World→Prop}{a:Act}{W:World}(h:∀w2,w2=W→c.wp P Q a w2):c.wp P Q a W:=h W rfl
end Go.Proofs.Pg
namespace Go.Proofs.Pg
open Go.RowKit
attribute [local go_sem] Oper.semAt_some
theorem QcE(b k j:Nat):(⟨b,k,none⟩:Addr).add j=⟨b,k+j,none⟩:=by unfold Addr.add;split<;>simp_all
theorem Qhc:(Tryz.prog.info? 5).map (·.size)=some 1:=by kernel_rfl
theorem Qhd:Tryz.prog.underlying 78=some (.slice 5):=Tryz.underlying78
theorem write_in(T:TypeId)(R:Nat→Option Value)(B b q:Nat)(bs cs:List Value)(k n c:Nat)(w:World)(h:LibA.IsBuffer T R 5 B b q bs w)(hBw:B≤w.heap.size)(h1:∀v∈bs,v.oneCell'=true)
  (hn:cs.length=n)(hkq:k+n≤q)(hR:∀j v,cs[j]? =some v→R (k+j)=some v)(h1c:∀v∈cs,v.oneCell'=true)(hlim:bs.length+n≤140737488355328) :
  Calls Tryz.prog 159 #[.pointer (some ⟨b,q,none⟩),.slice (some ⟨b,k,none⟩) n c] w fun e w'=>e=.returned (.tuple #[.int .i64 n,.nilIface])∧LibA.IsBuffer T R 5 B b q (bs++cs) w'∧Below B w w'∧Lib.OthersKept 5 (some b) w w':=by
 obtain⟨hB,v0,lr,hbk,-,-⟩:=id h;have c2:w.cell? ⟨b,q+2,none⟩=some (.int .i8 lr):=hbk.c2;have f2:w.frozen? ⟨b,q+2,none⟩=false:=hbk.f (q+2);have h':=h.setLast 0;have hbel0:Below B w (w.setCell ⟨b,q+2,none⟩ (.int .i8 0)):=(Below.refl B w).setCell (p:=⟨b,q+2,none⟩) hB _;have hk0:Lib.OthersKept 5 (some b) w (w.setCell ⟨b,q+2,none⟩ (.int .i8 0)):=(Lib.OthersKept.refl _ _ w).setCell ⟨b,q+2,none⟩ rfl _;have hBw':B≤(w.setCell ⟨b,q+2,none⟩ (.int .i8 0)).heap.size:=by simpa [World.setCell]using hBw
 clear hbk v0;by_cases hs0:n=0
 ·subst hs0
  have hc0:cs=[]:=List.eq_nil_of_length_eq_zero hn;subst hc0;have hce:∀d dLen dCap W,(Builtin.copy_ #[78,78] 3 #[.slice d dLen dCap,.slice (some ⟨b,k,none⟩) 0 c]).run Tryz.prog W=.ok (goInt 0) W:=fun d dLen dCap W=>run_copy_none W 78 78 3 5 d (some ⟨b,k,none⟩) dLen dCap 0 c Qhd Qhc (by simp)
  have hT:∀W,LibA.IsBuffer T R 5 B b q bs W→Calls Tryz.prog 180 #[.pointer (some ⟨b,q,none⟩),.int .i64 0] W _:=fun W hW=>Tryz.Buffer_tryGrow_at T R B b q 0 bs W hW
  have H':=Hi h';clear h';go_enter Tryz.func159,Tryz.ntmps159
  go_wp2_with(go_at_call 180;refine(hT _ ?_).mono ?_)
  ·exact H'.out
  rintro e W1(⟨rfl,xs,hxl,hI,hbel,hk,hg⟩|⟨rfl,rfl,hnr⟩)
  ·clear c2 f2 hT
   have hx0:xs=[]:=List.eq_nil_of_length_eq_zero hxl;subst hx0;rw[List.append_nil]at hI;obtain⟨-,lr2,hc⟩:=hI.cases;rcases hc with⟨hb0,hbk2⟩ | ⟨g,cap,cur,hbk2,-,-,hnc,hcm,-,-,-⟩
   ·subst hb0
    have d0:W1.cell? ⟨b,q,none⟩=some (.slice none 0 0):=hbk2.c0;go_wp2
    all_goals(go_ret2;first | exact⟨rfl,hI,hbel0.trans hbel,hk0.trans hk⟩ | exact⟨by simp,by simpa using hI,hbel0.trans hbel,hk0.trans hk⟩)
   ·have d0:W1.cell? ⟨b,q,none⟩=some (.slice (some ⟨g,0,none⟩) bs.length cap):=hbk2.c0
    unfold maxLen at hcm;go_wp2
    all_goals(go_ret2;first | exact⟨rfl,hI,hbel0.trans hbel,hk0.trans hk⟩ | exact⟨by simp,by simpa using hI,hbel0.trans hbel,hk0.trans hk⟩)
  ·obtain⟨_,_,_,_,hlt⟩:=hnr
   omega
 ·have H':=Hi h';clear h'
  go_enter Tryz.func159,Tryz.ntmps159
  go_wp2_with(go_at_call 180;refine(Tryz.Buffer_tryGrow_at T R B b q n bs _ ?_).mono ?_)
  ·exact H'.out
  rintro e W1(⟨rfl,xs,hxl,hI,hbel,hk,hg⟩|⟨rfl,rfl,hnr⟩)
  ·have hbelW:=hbel0.trans hbel
   have hkW:=hk0.trans hk;have hsrc1:∀j v,cs[j]? =some v→W1.cell? ((⟨b,k,none⟩:Addr).add j)=some v:=fun j v hj=>by
    have hlt:j<cs.length:=(List.getElem?_eq_some_iff.1 hj).1;rw[QcE];exact(hI.rest (k+j) (by omega)).trans (hR j v hj)
   clear hbel hbel0 hBw' c2 f2;obtain⟨-,lr2,hc⟩:=hI.cases;rcases hc with⟨hnil,-⟩ | ⟨g,cap,cur,hbk2,hBg,hg,hnc,hcm,hcs,htk,hgb⟩
   ·exact absurd (congrArg List.length hnil) (by rw[List.length_append,hxl,List.length_nil];omega)
   ·rw[List.length_append,hxl]at hbk2 hnc htk
    have d0:W1.cell? ⟨b,q,none⟩=some (.slice (some ⟨g,0,none⟩) (bs.length+n) cap):=hbk2.c0;have hne:¬cap=bs.length:=by omega
    have hcp:=run_copy_row (P:=Tryz.prog) W1 78 78 3 5 g bs.length n (cap-bs.length) ⟨b,k,none⟩ n c cur 5 cs Qhd Qhc hg (by rw[hn];exact(Nat.min_self n).symm) hsrc1 (by rw[hn];omega) h1c;rw[hn]at hcp;have hcm':=hcm;unfold maxLen at hcm';have HR:=Hi hR;clear hR;have HS:=Hi hsrc1;clear hsrc1;go_wp2
    go_ret2
    obtain⟨r1,r2⟩:=LibA.written_end (news:=cs) (l:=bs.length) hB (by rw[hn];exact hbk2) hBg hg hcm hcs hgb (by rw[hn];exact hnc);have e1:cur.toList.take bs.length=bs:=by
     have h3:=congrArg (List.take bs.length) htk
     rwa [List.take_take,Nat.min_eq_left (Nat.le_add_right _ _),List.take_left' rfl]at h3
    rw[e1,hn]at r1 r2;refine⟨rfl,?_,?_,hkW.setRow hg _⟩<;>rw[e1,←List.append_assoc]
    ·exact r1
    ·exact hbelW.trans r2
  ·go_wp2_with(go_at_call 181;refine(Tryz.Buffer_grow_at T R B b q n bs _ ?_ ?_ ?_ h1 hlim).mono ?_)
   ·exact H'.out
   ·exact hnr
   ·exact hBw'
   rintro e W1⟨rfl,xs,hxl,hI,hbel,hk,hg⟩;have hbelW:=hbel0.trans hbel;have hkW:=hk0.trans hk;have hsrc1:∀j v,cs[j]? =some v→W1.cell? ((⟨b,k,none⟩:Addr).add j)=some v:=fun j v hj=>by
    have hlt:j<cs.length:=(List.getElem?_eq_some_iff.1 hj).1;rw[QcE];exact(hI.rest (k+j) (by omega)).trans (hR j v hj)
   clear hbel hbel0 hBw' c2 f2 hnr;obtain⟨-,lr2,hc⟩:=hI.cases;rcases hc with⟨hnil,-⟩ | ⟨g,cap,cur,hbk2,hBg,hg,hnc,hcm,hcs,htk,hgb⟩
   ·exact absurd (congrArg List.length hnil) (by rw[List.length_append,hxl,List.length_nil];omega)
   ·rw[List.length_append,hxl]at hbk2 hnc htk
    have d0:W1.cell? ⟨b,q,none⟩=some (.slice (some ⟨g,0,none⟩) (bs.length+n) cap):=hbk2.c0;have hne:¬cap=bs.length:=by omega
    have hcp:=run_copy_row (P:=Tryz.prog) W1 78 78 3 5 g bs.length n (cap-bs.length) ⟨b,k,none⟩ n c cur 5 cs Qhd Qhc hg (by rw[hn];exact(Nat.min_self n).symm) hsrc1 (by rw[hn];omega) h1c;rw[hn]at hcp;have hcm':=hcm;unfold maxLen at hcm';have HR:=Hi hR;clear hR;have HS:=Hi hsrc1;clear hsrc1;go_wp2
    go_ret2
    obtain⟨r1,r2⟩:=LibA.written_end (news:=cs) (l:=bs.length) hB (by rw[hn];exact hbk2) hBg hg hcm hcs hgb (by rw[hn];exact hnc);have e1:cur.toList.take bs.length=bs:=by
     have h3:=congrArg (List.take bs.length) htk
     rwa [List.take_take,Nat.min_eq_left (Nat.le_add_right _ _),List.take_left' rfl]at h3
    rw[e1,hn]at r1 r2;refine⟨rfl,?_,?_,hkW.setRow hg _⟩<;>rw[e1,←List.append_assoc]
    ·exact r1
    ·exact hbelW.trans r2
end Go.Proofs.Pg
