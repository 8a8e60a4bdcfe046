/- FnComma: a last comma changes nothing; for every world. Part 12. -/
import Derived.Test.YtmhjkkkhdlnngaaGreatDoorZ11
import Derived.Deep.Cut
set_option linter.all false
set_option maxRecDepth 100000
set_option maxHeartbeats 40000000
namespace Go.Proofs.Pg
open Go.RowKit
attribute [local go_sem] Oper.semAt_some
def Qg1(w:World)(e:Ending)(w':World):Prop:=∃T x,e=.returned (.iface T x)∧Below w.heap.size w w'
theorem QaV(s:ByteArray)(w:World):Calls Tryz.prog 141 #[.string s] w (Qg1 w):=by
 go_enter Tryz.func141,Tryz.ntmps141;go_wp2;go_ret;exact⟨_,_,rfl,Qab w _⟩
theorem Qay{w:World}{bp base:Nat}{ts:List Tok}(hp:PS w bp base ts)(s:ByteArray)(args:Value) :
  Calls Tryz.prog 95 #[.pointer (some ⟨bp,0,none⟩),.string s,args] w (Qg1 w):=by
 obtain⟨bt,off,n,cap,k,a,b,hbt,d,hn,f,g⟩:=hp.ex;cases ts with
 | nil=>exact absurd rfl f
 | cons t ts =>
 have hbp:=hp.lt;obtain⟨c0,c1,c2,c3,c4,c5,_⟩:=g 0 t rfl;have p0:w.cell? ⟨bp,0,none⟩=some (.slice (some ⟨bt,off,none⟩) n cap):=Qaa b rfl;have p1:w.cell? ⟨bp,1,none⟩=some (.int .i64 (k:Nat)):=Qaa b rfl;simp only[Nat.add_zero]at c0 c1 c2 c3 c4 c5;have hk:k<n:=by simp at d;omega
 clear a b d g f hp;go_enter Tryz.func95,Tryz.ntmps95
 go_wp2_with fail
 go_quiet (fail)
 go_wp2_with fail
 refine QaK 10 (by kernel_rfl) (by kernel_rfl) ?_;simp only[List.take_succ_cons,List.take_zero,List.drop_succ_cons,List.drop_zero]
 repeat still_step
 refine wpStill_nil ?_
 go_wp2_with fail
 refine(QaV _ _).mono ?_;rintro e w2⟨T,x,rfl,hb⟩;go_wp2;go_ret;refine⟨_,_,rfl,?_⟩;refine Below.trans ?_ (hb.mono ?_)
 ·exact(QeR (S:=fun _=>False) _ _ _ _ _ _ ((((Ext.refl _ w).alloc _).drewN _).drew) (R:=w.heap.size) (.inr (Nat.le_refl _))).toBelow (fun _ h=>h.elim) (Nat.le_refl _)
 ·simp
theorem Qbd(t:Tok)(w:World):Calls Tryz.prog 133 #[t.val] w fun e w'=>e=.returned (.bool (t.ty==1))∧Below w.heap.size w w':=by
 go_enter Tryz.func133,Tryz.ntmps133;go_wp2;go_ret;exact⟨rfl,Qab w _⟩
theorem Qg2(t:Tok)(w:World):Calls Tryz.prog 245 #[t.val] w fun e w'=>e=.returned (.bool (t.ty==2))∧Below w.heap.size w w':=by
 go_enter Tryz.func245,Tryz.ntmps245;go_wp2;go_ret;exact⟨rfl,Qab w _⟩
theorem isRes_c(t:Tok)(w:World):Calls Tryz.prog 134 #[t.val] w fun e w'=>e=.returned (.bool (t.ty==3))∧Below w.heap.size w w':=by
 go_enter Tryz.func134,Tryz.ntmps134;go_wp2;go_ret;exact⟨rfl,Qab w _⟩
theorem QbY(t:Tok)(w:World):Calls Tryz.prog 137 #[t.val] w fun e w'=>e=.returned (.bool (t.ty==4))∧Below w.heap.size w w':=by
 go_enter Tryz.func137,Tryz.ntmps137;go_wp2;go_ret;exact⟨rfl,Qab w _⟩
theorem Qg3{w:World}{bp base:Nat}{t:Tok}{ts:List Tok}(hp:PS w bp base (t::ts))(s:ByteArray)(h:(t.tx.toList==s.toList)=true) :
  Calls Tryz.prog 70 #[.pointer (some ⟨bp,0,none⟩),.string s] w fun e w'=>e=.returned .nilIface∧PS w' bp base (adv (t::ts))∧Ext (·=bp) w w':=by
 go_enter Tryz.func70,Tryz.ntmps70
 go_wp2_with fail
 refine(Qaz hp).mono ?_;rintro e w1⟨rfl,hp1,hE⟩;go_wp2;go_ret;exact⟨rfl,hp1.below (Qab _ _),hE.alloc _⟩
theorem exact_no{w:World}{bp base:Nat}{t:Tok}{ts:List Tok}(hp:PS w bp base (t::ts))(s:ByteArray)(h:(t.tx.toList==s.toList)=false) :
  Calls Tryz.prog 70 #[.pointer (some ⟨bp,0,none⟩),.string s] w fun e w'=>∃T x,e=.returned (.iface T x)∧PS w' bp base (adv (t::ts))∧Ext (·=bp) w w':=by
 go_enter Tryz.func70,Tryz.ntmps70
 go_wp2_with fail
 refine(Qaz hp).mono ?_;rintro e w1⟨rfl,hp1,hE⟩
 go_wp2_with fail
 refine(Qay ((hp1.below (Qab _ _)).below (Qab _ _)) _ _).mono ?_;rintro e w2⟨T,x,rfl,hb⟩;go_wp2;go_ret;exact⟨_,_,rfl,((hp1.below (Qab _ _)).below (Qab _ _)).below hb,((hE.alloc _).alloc _).trans (.below hb)⟩
theorem skip_yes{w:World}{bp base:Nat}{t:Tok}{ts:List Tok}(hp:PS w bp base (t::ts))(s:ByteArray)(h:(t.tx.toList==s.toList)=true) :
  Calls Tryz.prog 74 #[.pointer (some ⟨bp,0,none⟩),.string s] w fun e w'=>e=.returned (.tuple #[])∧PS w' bp base (adv (t::ts))∧Ext (·=bp) w w':=by
 go_enter Tryz.func74,Tryz.ntmps74
 go_wp2_with fail
 refine(Qa7 hp).mono ?_;rintro e w1⟨rfl,hb⟩;have hp1:=hp.below hb
 go_wp2_with fail
 refine(Qaz (hp1.below (Qab _ _))).mono ?_;rintro e w2⟨rfl,hp2,hE⟩;go_wp2
 go_end0
 exact⟨rfl,hp2,((Ext.below hb).alloc _).trans hE⟩
theorem skip_no{w:World}{bp base:Nat}{t:Tok}{ts:List Tok}(hp:PS w bp base (t::ts))(s:ByteArray)(h:(t.tx.toList==s.toList)=false) :
  Calls Tryz.prog 74 #[.pointer (some ⟨bp,0,none⟩),.string s] w fun e w'=>e=.returned (.tuple #[])∧PS w' bp base (t::ts)∧Ext (·=bp) w w':=by
 go_enter Tryz.func74,Tryz.ntmps74
 go_wp2_with fail
 refine(Qa7 hp).mono ?_;rintro e w1⟨rfl,hb⟩;have hp1:=hp.below hb;go_wp2
 go_end0
 exact⟨rfl,hp1.below (Qab _ _),(Ext.below hb).alloc _⟩
end Go.Proofs.Pg
namespace Go.Proofs.Pg
open Go.RowKit
def Vl.val:Vl→Value
 | .bool b=>.iface 252 (.bool b)
 | .long n=>.iface 253 (.int .i64 n)
 | .str s=>.iface 131 (.string s)
 | .uid t i=>.iface 167 (.agg #[.string t,.string i])
def Soft(w:World)(lo d:Nat):Prop:=d<lo∨w.heap.size≤d∨∃c T fr,w.heap[d]? =some (.cells c T fr)∧T≠136∧T≠221∧T≠316
theorem Soft.ne{w:World}{lo d b:Nat}{c:Array Value}{T:TypeId}{fr:Nat×Nat}(h:Soft w lo d)(hl:lo≤b)(hb:w.heap[b]? =some (.cells c T fr))(hT:T=136∨T=221∨T=316):d≠b:=by
 rintro rfl;rcases h with h | h | ⟨c',T',fr',h,h1,h2,h3⟩
 ·omega
 ·have:=Qad hb;omega
 ·rw[hb]at h;cases h
  rcases hT with h | h | h
  ·exact h1 h
  ·exact h2 h
  ·exact h3 h
def RowAt(w:World)(lo tag:Nat)(p:Option Addr)(n:Nat)(vs:Nat→Value):Prop :=
 n=0∨∃b off c fr,p=some ⟨b,off,none⟩∧lo≤b∧w.heap[b]? =some (.cells c tag fr)∧∀i,i<n→c[off+i]? =some (vs i)
theorem RowAt.ext{w w':World}{lo tag:Nat}{S:Nat→Prop}{p:Option Addr}{n:Nat}{vs:Nat→Value}(h:RowAt w lo tag p n vs)(ht:tag=136∨tag=221∨tag=316)(he:Ext S w w')(hs:∀d,S d→Soft w lo d):RowAt w' lo tag p n vs:=by
 rcases h with h | ⟨b,off,c,fr,h1,h2,h3,h4⟩
 ·exact .inl h
 ·exact .inr ⟨b,off,c,fr,h1,h2,he.heap (fun hS=>(hs _ hS).ne h2 h3 ht rfl) h3,h4⟩
theorem RowAt.mono{w:World}{lo lo' tag:Nat}{p:Option Addr}{n:Nat}{vs:Nat→Value}(h:RowAt w lo tag p n vs)(hl:lo'≤lo):RowAt w lo' tag p n vs:=by
 rcases h with h | ⟨b,off,c,fr,h1,h2,h3,h4⟩
 ·exact .inl h
 ·exact .inr ⟨b,off,c,fr,h1,by omega,h3,h4⟩
def Row2At(w:World)(lo tag:Nat)(p:Option Addr)(n:Nat)(us vs:Nat→Value):Prop :=
 n=0∨∃b off c fr,p=some ⟨b,off,none⟩∧lo≤b∧w.heap[b]? =some (.cells c tag fr)∧∀i,i<n→c[off+i*2]? =some (us i)∧c[off+i*2+1]? =some (vs i)
theorem Row2At.ext{w w':World}{lo tag:Nat}{S:Nat→Prop}{p:Option Addr}{n:Nat}{us vs:Nat→Value}(h:Row2At w lo tag p n us vs)(ht:tag=136∨tag=221∨tag=316)(he:Ext S w w')(hs:∀d,S d→Soft w lo d):Row2At w' lo tag p n us vs:=by
 rcases h with h | ⟨b,off,c,fr,h1,h2,h3,h4⟩
 ·exact .inl h
 ·exact .inr ⟨b,off,c,fr,h1,h2,he.heap (fun hS=>(hs _ hS).ne h2 h3 ht rfl) h3,h4⟩
theorem Row2At.mono{w:World}{lo lo' tag:Nat}{p:Option Addr}{n:Nat}{us vs:Nat→Value}(h:Row2At w lo tag p n us vs)(hl:lo'≤lo):Row2At w lo' tag p n us vs:=by
 rcases h with h | ⟨b,off,c,fr,h1,h2,h3,h4⟩
 ·exact .inl h
 ·exact .inr ⟨b,off,c,fr,h1,by omega,h3,h4⟩
inductive NodeIs(w:World)(lo:Nat):Value→Ex→Prop
 | val (v:Vl):NodeIs w lo (.iface 182 (.agg #[v.val])) (.val v)
 | var (s:ByteArray):NodeIs w lo (.iface 186 (.agg #[.string s])) (.var s)
 | ite (x y z:Value)(a b c:Ex)(h1:NodeIs w lo x a)(h2:NodeIs w lo y b)(h3:NodeIs w lo z c):NodeIs w lo (.iface 188 (.agg #[x,y,z])) (.ite a b c)
 | bin (op:Nat)(x y:Value)(a b:Ex)(h1:NodeIs w lo x a)(h2:NodeIs w lo y b):NodeIs w lo (.iface op (.agg #[x,y])) (.bin op a b)
 | una (op:Nat)(x:Value)(a:Ex)(h1:NodeIs w lo x a):NodeIs w lo (.iface op (.agg #[x])) (.una op a)
 | sop (op:Nat)(x:Value)(s:ByteArray)(a:Ex)(h1:NodeIs w lo x a):NodeIs w lo (.iface op (.agg #[x,.string s])) (.sop op a s)
 | isIn (x y:Value)(s:ByteArray)(a b:Ex)(h1:NodeIs w lo x a)(h2:NodeIs w lo y b):NodeIs w lo (.iface 204 (.agg #[x,.string s,y])) (.isIn a s b)
 | like (x:Value)(a:Ex)(l:List (Bool×ByteArray))(p:Option Addr)(c:Nat)(h1:NodeIs w lo x a)(hr:Row2At w lo 316 p l.length (fun i=>.bool (l.getD i (false,⟨#[]⟩)).1) (fun i=>.string (l.getD i (false,⟨#[]⟩)).2)) :
   NodeIs w lo (.iface 199 (.agg #[x,.slice p l.length c])) (.like a l)
 | call (s:ByteArray)(l:List Ex)(p:Option Addr)(c:Nat)(vs:Nat→Value)(hr:RowAt w lo 136 p l.length vs)(h:∀i a,l[i]? =some a→NodeIs w lo (vs i) a):NodeIs w lo (.iface 214 (.agg #[.string s,.slice p l.length c])) (.call s l)
 | set (l:List Ex)(p:Option Addr)(c:Nat)(vs:Nat→Value)(hr:RowAt w lo 136 p l.length vs)(h:∀i a,l[i]? =some a→NodeIs w lo (vs i) a):NodeIs w lo (.iface 216 (.agg #[.slice p l.length c])) (.set l)
 | recd (l:List (ByteArray×Ex))(p:Option Addr)(c:Nat)(vs:Nat→Value)(hr:Row2At w lo 221 p l.length (fun i=>.string (l.getD i (⟨#[]⟩,.set [])).1) vs)(h:∀i a,l[i]? =some a→NodeIs w lo (vs i) a.2) :
   NodeIs w lo (.iface 219 (.agg #[.slice p l.length c])) (.recd l)
theorem NodeIs.ext{w w':World}{lo:Nat}{S:Nat→Prop}{v:Value}{x:Ex}(h:NodeIs w lo v x)(he:Ext S w w')(hs:∀d,S d→Soft w lo d):NodeIs w' lo v x:=by
 induction h with
 | val v=>exact .val v
 | var s=>exact .var s
 | ite x y z a b c _ _ _ i1 i2 i3=>exact .ite x y z a b c i1 i2 i3
 | bin op x y a b _ _ i1 i2=>exact .bin op x y a b i1 i2
 | una op x a _ i1=>exact .una op x a i1
 | sop op x s a _ i1=>exact .sop op x s a i1
 | isIn x y s a b _ _ i1 i2=>exact .isIn x y s a b i1 i2
 | like x a l p c _ hr i1=>exact .like x a l p c i1 (hr.ext (by simp) he hs)
 | call s l p c vs hr _ ih=>exact .call s l p c vs (hr.ext (by simp) he hs) ih
 | set l p c vs hr _ ih=>exact .set l p c vs (hr.ext (by simp) he hs) ih
 | recd l p c vs hr _ ih=>exact .recd l p c vs (hr.ext (by simp) he hs) ih
theorem NodeIs.mono{w:World}{lo lo':Nat}{v:Value}{x:Ex}(h:NodeIs w lo v x)(hl:lo'≤lo):NodeIs w lo' v x:=by
 induction h with
 | val v=>exact .val v
 | var s=>exact .var s
 | ite x y z a b c _ _ _ i1 i2 i3=>exact .ite x y z a b c i1 i2 i3
 | bin op x y a b _ _ i1 i2=>exact .bin op x y a b i1 i2
 | una op x a _ i1=>exact .una op x a i1
 | sop op x s a _ i1=>exact .sop op x s a i1
 | isIn x y s a b _ _ i1 i2=>exact .isIn x y s a b i1 i2
 | like x a l p c _ hr i1=>exact .like x a l p c i1 (hr.mono hl)
 | call s l p c vs hr _ ih=>exact .call s l p c vs (hr.mono hl) ih
 | set l p c vs hr _ ih=>exact .set l p c vs (hr.mono hl) ih
 | recd l p c vs hr _ ih=>exact .recd l p c vs (hr.mono hl) ih
theorem NodeIs.iface{w:World}{lo:Nat}{v:Value}{x:Ex}(h:NodeIs w lo v x):∃T y,v=.iface T y:=by
 cases h<;>exact⟨_,_,rfl⟩
end Go.Proofs.Pg
namespace Go.Proofs.Pg
abbrev Toks:=List Tok
def hd:Toks→Tok
 | []=>⟨0,⟨#[]⟩,0,0,0,⟨#[]⟩⟩
 | t::_=>t
def ty(ts:Toks):Int:=(hd ts).ty
def Wf:Toks→Prop
 | []=>False
 | [t]=>t.ty=0∧t.tx.toList=[]
 | _::u::ts=>Wf (u::ts)
def exact(s:List UInt8)(ts:Toks):Option Toks:=if(tx ts==s)=true then some (adv ts)else none
structure Lex where
 str:ByteArray→Option ByteArray
 int:ByteArray→Option Int
 ext:ByteArray→Option Bool
 pat:ByteArray→Option (List (Bool×ByteArray))
section
variable (L:Lex)
def Qcz:Nat→ByteArray→Toks→Option (ByteArray×Toks)
 | 0,_,_=>none
 | f+1,r,ts=>if(tx ts==[58,58])=true then(if(ty (adv ts)==1)=true then Qcz f (r++(⟨#[58,58]⟩:ByteArray)++(hd (adv ts)).tx) (adv (adv ts))else none)else some (r,ts)
def path(ts:Toks):Option (ByteArray×Toks):=if(ty ts==1)=true then Qcz (ts.length+1) (hd ts).tx (adv ts)else none
def entL:Nat→ByteArray→Toks→Option ((ByteArray×ByteArray)×Toks)
 | 0,_,_=>none
 | f+1,r,ts=>match exact [58,58] ts with
  | none=>none
  | some us=>if(ty us==1)=true then entL f (r++(⟨#[58,58]⟩:ByteArray)++(hd us).tx) (adv us)else if(ty us==4)=true then(match L.str (hd us).tx with
   | none=>none
   | some s=>some ((r,s),adv us))else none
def entity(ts:Toks):Option ((ByteArray×ByteArray)×Toks):=if(ty ts==1)=true then entL L (ts.length+1) (hd ts).tx (adv ts)else none
variable (E:Toks→Option (Ex×Toks))
def QaE(close:List UInt8):Nat→List Ex→Toks→Option (List Ex×Toks)
 | 0,_,_=>none
 | f+1,acc,ts=>if(tx ts==close)=true then some (acc,ts)else match E ts with
  | none=>none
  | some (x,us)=>if(tx us==[44])=true then QaE close f (acc++[x]) (adv us)else if(tx us==close)=true then some (acc++[x],us)else none
def Qbr(close:List UInt8)(ts:Toks):Option (List Ex×Toks):=QaE E close (ts.length+1) [] ts
def key(ts:Toks):Option ByteArray:=if(ty ts==1)=true then some (hd ts).tx else if(ty ts==4)=true then L.str (hd ts).tx else none
def entry(ts:Toks):Option ((ByteArray×Ex)×Toks):=match key L ts with
 | none=>none
 | some k=>match exact [58] (adv ts)with
  | none=>none
  | some us=>match E us with
   | none=>none
   | some (x,vs)=>some ((k,x),vs)
def Qbz:Nat→List (ByteArray×Ex)→Toks→Option (List (ByteArray×Ex)×Toks)
 | 0,_,_=>none
 | f+1,acc,ts=>if(tx ts==[125])=true then some (acc,adv ts)else match entry L E ts with
  | none=>none
  | some ((k,x),us)=>if(acc.any fun p=>p.1.toList==k.toList)=true then none else if(tx us==[44])=true then Qbz f (acc++[(k,x)]) (adv us)else if(tx us==[125])=true then some (acc++[(k,x)],adv us)else none
def recd(ts:Toks):Option (List (ByteArray×Ex)×Toks):=Qbz L E (ts.length+1) [] ts
def Qa1:Nat→ByteArray→Toks→Option (Ex×Toks)
 | 0,_,_=>none
 | f+1,r,ts=>if(tx ts==[58,58])=true then(if(ty (adv ts)==1)=true then Qa1 f (r++(⟨#[58,58]⟩:ByteArray)++(hd (adv ts)).tx) (adv (adv ts))else if(ty (adv ts)==4)=true then(match L.str (hd (adv ts)).tx with
   | none=>none
   | some s=>some (.val (.uid r s),adv (adv ts)))else none)
  else if(tx ts==[40])=true then(match L.ext r with
   | some false=>(match Qbr E [41] (adv ts)with
    | none=>none
    | some (l,us)=>some (.call r l,adv us))
   | _=>none)else none
def vars(s:List UInt8):Option Ex :=
 if(s==[112,114,105,110,99,105,112,97,108])=true then some (.var (⟨#[112,114,105,110,99,105,112,97,108]⟩:ByteArray))else if(s==[97,99,116,105,111,110])=true then some (.var (⟨#[97,99,116,105,111,110]⟩:ByteArray))else if(s==[114,101,115,111,117,114,99,101])=true then some (.var (⟨#[114,101,115,111,117,114,99,101]⟩:ByteArray))else if(s==[99,111,110,116,101,120,116])=true then some (.var (⟨#[99,111,110,116,101,120,116]⟩:ByteArray))else none
def primary(ts:Toks):Option (Ex×Toks) :=
 if(ty ts==2)=true then(match L.int (hd ts).tx with
  | none=>none
  | some n=>some (.val (.long n),adv ts))
 else if(ty ts==4)=true then(match L.str (hd ts).tx with
  | none=>none
  | some s=>some (.val (.str s),adv ts))
 else if(tx ts==[116,114,117,101])=true then some (.val (.bool true),adv ts)
 else if(tx ts==[102,97,108,115,101])=true then some (.val (.bool false),adv ts)
 else if(ty ts==1)=true then(if(tx (adv ts)==[58,58])=true∨(tx (adv ts)==[40])=true then Qa1 L E (ts.length+1) (hd ts).tx (adv ts)else match vars (tx ts)with
  | none=>none
  | some x=>some (x,adv ts))
 else if(tx ts==[40])=true then(match E (adv ts)with
  | none=>none
  | some (x,us)=>match exact [41] us with
   | none=>none
   | some vs=>some (x,vs))
 else if(tx ts==[91])=true then(match Qbr E [93] (adv ts)with
  | none=>none
  | some (l,us)=>some (.set l,adv us))
 else if(tx ts==[123])=true then(match recd L E (adv ts)with
  | none=>none
  | some (l,us)=>some (.recd l,us))
 else none
def one(op:Nat)(lhs:Ex):List Ex→Option Ex
 | [x]=>some (.bin op lhs x)
 | _=>none
def method(name:ByteArray)(lhs:Ex)(l:List Ex):Option Ex :=
 if(name.toList==[99,111,110,116,97,105,110,115])=true then one 278 lhs l else if(name.toList==[99,111,110,116,97,105,110,115,65,108,108])=true then one 279 lhs l else if(name.toList==[99,111,110,116,97,105,110,115,65,110,121])=true then one 280 lhs l
 else if(name.toList==[104,97,115,84,97,103])=true then one 270 lhs l else if(name.toList==[103,101,116,84,97,103])=true then one 271 lhs l else if(name.toList==[105,115,69,109,112,116,121])=true then(match l with
  | []=>some (.una 210 lhs)
  | _=>none)
 else match L.ext name with
  | some true=>some (.call name (lhs::l))
  | _=>none
def access(lhs:Ex)(ts:Toks):Option (Option (Ex×Toks)) :=
 if(tx ts==[46])=true then(if(ty (adv ts)==1)=true then(if(tx (adv (adv ts))==[40])=true then(match Qbr E [41] (adv (adv (adv ts)))with
   | none=>none
   | some (l,us)=>match method L (hd (adv ts)).tx lhs l with
    | none=>none
    | some x=>some (some (x,adv us)))
   else some (some (.sop 194 lhs (hd (adv ts)).tx,adv (adv ts))))else none)
 else if(tx ts==[91])=true then(if(ty (adv ts)==4)=true then(match L.str (hd (adv ts)).tx with
   | none=>none
   | some s=>match exact [93] (adv (adv ts))with
    | none=>none
    | some us=>some (some (.sop 194 lhs s,us)))else none)
 else some none
def memL:Nat→Ex→Toks→Option (Ex×Toks)
 | 0,_,_=>none
 | f+1,x,ts=>match access L E x ts with
  | none=>none
  | some none=>some (x,ts)
  | some (some (y,us))=>memL f y us
def member(ts:Toks):Option (Ex×Toks):=match primary L E ts with
 | none=>none
 | some (x,us)=>memL L E (us.length+1) x us
def opsL:Nat→List Bool→Toks→List Bool×Toks
 | 0,acc,ts=>(acc,ts)
 | f+1,acc,ts=>if(tx ts==[45])=true then opsL f (acc++[true]) (adv ts)else if(tx ts==[33])=true then opsL f (acc++[false]) (adv ts)else(acc,ts)
def signed(l:List Bool)(x:Ex):Ex:=l.foldr (fun b y=>if b=true then .una 208 y else .una 209 y) x
def unary(ts:Toks):Option (Ex×Toks) :=
 let p:=opsL (ts.length+1) [] ts
 if p.1.getLast? =some true∧(ty p.2==2)=true then(match L.int ((⟨#[45]⟩:ByteArray)++(hd p.2).tx)with
  | none=>none
  | some n=>some (signed p.1.dropLast (.val (.long n)),adv p.2))
 else match member L E p.2 with
  | none=>none
  | some (x,us)=>some (signed p.1 x,us)
def Qcj:Nat→Ex→Toks→Option (Ex×Toks)
 | 0,_,_=>none
 | f+1,x,ts=>if(tx ts==[42])=true then(match unary L E (adv ts)with
  | none=>none
  | some (y,us)=>Qcj f (.bin 277 x y) us)else some (x,ts)
def mult(ts:Toks):Option (Ex×Toks):=match unary L E ts with
 | none=>none
 | some (x,us)=>Qcj L E (us.length+1) x us
def addL:Nat→Ex→Toks→Option (Ex×Toks)
 | 0,_,_=>none
 | f+1,x,ts=>if(tx ts==[43])=true then(match mult L E (adv ts)with
  | none=>none
  | some (y,us)=>addL f (.bin 276 x y) us)else if(tx ts==[45])=true then(match mult L E (adv ts)with
  | none=>none
  | some (y,us)=>addL f (.bin 275 x y) us)else some (x,ts)
def add(ts:Toks):Option (Ex×Toks):=match mult L E ts with
 | none=>none
 | some (x,us)=>addL L E (us.length+1) x us
def hasL:Nat→Ex→Ex→Toks→Option (Ex×Toks)
 | 0,_,_,_=>none
 | f+1,r,c,ts=>if(tx ts==[46])=true then(if(ty (adv ts)==1)=true then hasL f (.bin 262 r (.sop 193 c (hd (adv ts)).tx)) (.sop 194 c (hd (adv ts)).tx) (adv (adv ts))else none)else some (r,ts)
def has(lhs:Ex)(ts:Toks):Option (Ex×Toks) :=
 if(ty ts==1)=true then hasL (ts.length+1) (.sop 193 lhs (hd ts).tx) (.sop 194 lhs (hd ts).tx) (adv ts)
 else if(ty ts==4)=true then(match L.str (hd ts).tx with
  | none=>none
  | some s=>some (.sop 193 lhs s,adv ts))else none
def like(lhs:Ex)(ts:Toks):Option (Ex×Toks):=if(ty ts==4)=true then(match L.pat (hd ts).tx with
  | none=>none
  | some p=>some (.like lhs p,adv ts))else none
def is(lhs:Ex)(ts:Toks):Option (Ex×Toks):=match path ts with
 | none=>none
 | some (p,us)=>if(tx us==[105,110])=true then(match add L E (adv us)with
  | none=>none
  | some (x,vs)=>some (.isIn lhs p x,vs))else some (.sop 202 lhs p,us)
def QbM(s:List UInt8):Option Nat :=
 if(s==[60])=true then some 263 else if(s==[60,61])=true then some 264 else if(s==[62])=true then some 265 else if(s==[62,61])=true then some 266 else if(s==[33,61])=true then some 267 else if(s==[61,61])=true then some 268 else if(s==[105,110])=true then some 269 else none
def relation(ts:Toks):Option (Ex×Toks):=match add L E ts with
 | none=>none
 | some (x,us)=>if(tx us==[104,97,115])=true then has L x (adv us)else if(tx us==[108,105,107,101])=true then like L x (adv us)else if(tx us==[105,115])=true then is L E x (adv us)
  else match QbM (tx us)with
   | none=>some (x,us)
   | some op=>match add L E (adv us)with
    | none=>none
    | some (y,vs)=>some (.bin op x y,vs)
def andL:Nat→Ex→Toks→Option (Ex×Toks)
 | 0,_,_=>none
 | f+1,x,ts=>if(tx ts==[38,38])=true then(match relation L E (adv ts)with
  | none=>none
  | some (y,us)=>andL f (.bin 262 x y) us)else some (x,ts)
def and(ts:Toks):Option (Ex×Toks):=match relation L E ts with
 | none=>none
 | some (x,us)=>andL L E (us.length+1) x us
def orL:Nat→Ex→Toks→Option (Ex×Toks)
 | 0,_,_=>none
 | f+1,x,ts=>if(tx ts==[124,124])=true then(match and L E (adv ts)with
  | none=>none
  | some (y,us)=>orL f (.bin 260 x y) us)else some (x,ts)
def or(ts:Toks):Option (Ex×Toks):=match and L E ts with
 | none=>none
 | some (x,us)=>orL L E (us.length+1) x us
def QbH(ts:Toks):Option (Ex×Toks):=if(tx ts==[105,102])=true then(match E (adv ts)with
  | none=>none
  | some (x,us)=>match exact [116,104,101,110] us with
   | none=>none
   | some us=>match E us with
    | none=>none
    | some (y,us)=>match exact [101,108,115,101] us with
     | none=>none
     | some us=>match E us with
      | none=>none
      | some (z,us)=>some (.ite x y z,us))
 else or L E ts
end
def expr(L:Lex):Nat→Toks→Option (Ex×Toks)
 | 0,_=>none
 | f+1,ts=>QbH L (expr L f) ts
def Sf(us ts:Toks):Prop:=us≠[]∧us <:+ ts
theorem Wf.ne{ts:Toks}(h:Wf ts):ts≠[]:=by cases ts<;>simp_all [Wf]
theorem Wf.refl{ts:Toks}(h:Wf ts):Sf ts ts:=⟨h.ne,List.suffix_refl _⟩
theorem Sf.trans{a b c:Toks}(h:Sf a b)(k:Sf b c):Sf a c:=⟨h.1,h.2.trans k.2⟩
theorem Sf.len{a b:Toks}(h:Sf a b):a.length≤b.length:=h.2.length_le
theorem Wf.suffix:∀{ts us:Toks},Wf ts→us≠[]→us <:+ ts→Wf us:=by
 intro ts
 induction ts with
 | nil=>intro us h;exact absurd h (by simp[Wf])
 | cons t ts ih =>
  intro us h hne hs;rcases List.suffix_cons_iff.1 hs with e | e
  ·subst e;exact h
  ·cases ts with
   | nil=>simp at e;exact absurd e hne
   | cons u r=>exact ih h hne e
theorem Sf.wf{us ts:Toks}(h:Sf us ts)(hw:Wf ts):Wf us:=hw.suffix h.1 h.2
theorem Qam{ts:Toks}(h:Wf ts):Sf (adv ts) ts:=by
 match ts,h with
 | [],h=>exact absurd h (by simp[Wf])
 | [t],h=>exact⟨by simp[adv],List.suffix_refl _⟩
 | t::u::r,h=>exact⟨by simp[adv],List.suffix_cons t (u::r)⟩
theorem Wf.adv{ts:Toks}(h:Wf ts):Wf (adv ts):=(Qam h).wf h
theorem adv_lt{ts:Toks}(h:Wf ts)(hn:ty ts≠0∨tx ts≠[]):(adv ts).length<ts.length:=by
 match ts,h with
 | [],h=>exact absurd h (by simp[Wf])
 | [t],h=>exact absurd hn (by simp[Wf]at h;simp[ty,hd,tx,h])
 | t::u::r,h=>simp[adv]
theorem Qax{ts:Toks}{s:List UInt8}(h:Wf ts)(hs:(tx ts==s)=true)(hne:s≠[]):(adv ts).length<ts.length :=
 adv_lt h (.inr (by rw[beq_iff_eq.1 hs];exact hne))
theorem QbZ{ts:Toks}{k:Int}(h:Wf ts)(hs:(ty ts==k)=true)(hne:k≠0):(adv ts).length<ts.length :=
 adv_lt h (.inl (by rw[beq_iff_eq.1 hs];exact hne))
theorem QaC{s:List UInt8}{ts us:Toks}(h:Wf ts)(he:exact s ts=some us):Sf us ts:=by
 unfold exact at he;split at he
 ·cases he;exact Qam h
 ·cases he
def Sh{α:Type}(m:Toks→Option (α×Toks)):Prop:=∀ts x us,Wf ts→m ts=some (x,us)→Sf us ts∧us.length<ts.length
def Sh0{α:Type}(m:Toks→Option (α×Toks)):Prop:=∀ts x us,Wf ts→m ts=some (x,us)→Sf us ts
theorem Qc0{a b c:Toks}(h:Sf b c)(k:Sf a b)(hl:b.length<c.length):Sf a c∧a.length<c.length:=⟨k.trans h,Nat.lt_of_le_of_lt k.len hl⟩
theorem pathL_sf:∀f r,Sh0 (Qcz f r):=by
 intro f
 induction f with
 | zero=>intro r ts x us h he;cases he
 | succ f ih =>
  intro r ts x us h he;rw[Qcz]at he;split at he
  ·split at he
   ·have:=ih _ _ _ _ h.adv.adv he
    exact this.trans ((Qam h.adv).trans (Qam h))
   ·cases he
  ·cases he;exact h.refl
theorem QcR:Sh path:=by
 intro ts x us h he;rw[path]at he;split at he
 ·rename_i hc
  exact Qc0 (Qam h) (pathL_sf _ _ _ _ _ h.adv he) (QbZ h hc (by decide))
 ·cases he
variable {L:Lex}
theorem entL_sf:∀f r,Sh0 (entL L f r):=by
 intro f
 induction f with
 | zero=>intro r ts x us h he;cases he
 | succ f ih =>
  intro r ts x us h he;rw[entL]at he;split at he
  ·cases he
  ·rename_i vs hv
   have h1:=QaC h hv;have w1:=h1.wf h;split at he
   ·exact(ih _ _ _ _ w1.adv he).trans ((Qam w1).trans h1)
   ·split at he
    ·split at he
     ·cases he
     ·cases he;exact(Qam w1).trans h1
    ·cases he
theorem Qb8:Sh (entity L):=by
 intro ts x us h he;rw[entity]at he;split at he
 ·rename_i hc
  exact Qc0 (Qam h) (entL_sf _ _ _ _ _ h.adv he) (QbZ h hc (by decide))
 ·cases he
variable {E:Toks→Option (Ex×Toks)}
theorem Qg4(hE:Sh E)(close:List UInt8):∀f acc,Sh0 (QaE E close f acc):=by
 intro f
 induction f with
 | zero=>intro r ts x us h he;cases he
 | succ f ih =>
  intro r ts x us h he;rw[QaE]at he;split at he
  ·cases he;exact h.refl
  ·split at he
   ·cases he
   ·rename_i y vs hv
    have h1:=(hE _ _ _ h hv).1;have w1:=h1.wf h;split at he
    ·exact(ih _ _ _ _ w1.adv he).trans ((Qam w1).trans h1)
    ·split at he
     ·cases he;exact h1
     ·cases he
theorem Qdf(hE:Sh E)(close:List UInt8):Sh0 (Qbr E close):=fun ts x us h he=>Qg4 hE close _ _ _ _ _ h he
theorem QdY(hE:Sh E):Sh0 (entry L E):=by
 intro ts x us h he;rw[entry]at he;split at he
 ·cases he
 ·split at he
  ·cases he
  ·rename_i vs hv
   have h1:=QaC h.adv hv;split at he
   ·cases he
   ·rename_i y zs hz
    cases he;exact(hE _ _ _ (h1.wf h.adv) hz).1.trans (h1.trans (Qam h))
theorem recdL_sf(hE:Sh E):∀f acc,Sh0 (Qbz L E f acc):=by
 intro f
 induction f with
 | zero=>intro r ts x us h he;cases he
 | succ f ih =>
  intro r ts x us h he;rw[Qbz]at he;split at he
  ·cases he;exact Qam h
  ·split at he
   ·cases he
   ·rename_i k y vs hv
    have h1:=QdY hE _ _ _ h hv;have w1:=h1.wf h;split at he
    ·cases he
    ·split at he
     ·exact(ih _ _ _ _ w1.adv he).trans ((Qam w1).trans h1)
     ·split at he
      ·cases he;exact(Qam w1).trans h1
      ·cases he
theorem recd_sf(hE:Sh E):Sh0 (recd L E):=fun ts x us h he=>recdL_sf hE _ _ _ _ _ h he
theorem QfX(hE:Sh E):∀f r,Sh0 (Qa1 L E f r):=by
 intro f
 induction f with
 | zero=>intro r ts x us h he;cases he
 | succ f ih =>
  intro r ts x us h he;rw[Qa1]at he;split at he
  ·split at he
   ·exact(ih _ _ _ _ h.adv.adv he).trans ((Qam h.adv).trans (Qam h))
   ·split at he
    ·split at he
     ·cases he
     ·cases he;exact(Qam h.adv).trans (Qam h)
    ·cases he
  ·split at he
   ·split at he
    ·split at he
     ·cases he
     ·rename_i l vs hv
      cases he;have h1:=Qdf hE _ _ _ _ h.adv hv;exact(Qam (h1.wf h.adv)).trans (h1.trans (Qam h))
    ·cases he
   ·cases he
theorem QcS(hE:Sh E):Sh (primary L E):=by
 intro ts x us h he;rw[primary]at he;split at he
 ·rename_i hc
  split at he
  ·cases he
  ·cases he;exact⟨Qam h,QbZ h hc (by decide)⟩
 split at he
 ·rename_i hc
  split at he
  ·cases he
  ·cases he;exact⟨Qam h,QbZ h hc (by decide)⟩
 split at he
 ·rename_i hc
  cases he;exact⟨Qam h,Qax h hc (by decide)⟩
 split at he
 ·rename_i hc
  cases he;exact⟨Qam h,Qax h hc (by decide)⟩
 split at he
 ·rename_i hc
  split at he
  ·exact Qc0 (Qam h) (QfX hE _ _ _ _ _ h.adv he) (QbZ h hc (by decide))
  ·split at he
   ·cases he
   ·cases he;exact⟨Qam h,QbZ h hc (by decide)⟩
 split at he
 ·rename_i hc
  split at he
  ·cases he
  ·rename_i y vs hv
   have h1:=(hE _ _ _ h.adv hv).1;split at he
   ·cases he
   ·rename_i zs hz
    cases he;exact Qc0 (Qam h) ((QaC (h1.wf h.adv) hz).trans h1) (Qax h hc (by decide))
 split at he
 ·rename_i hc
  split at he
  ·cases he
  ·rename_i l vs hv
   cases he;have h1:=Qdf hE _ _ _ _ h.adv hv;exact Qc0 (Qam h) ((Qam (h1.wf h.adv)).trans h1) (Qax h hc (by decide))
 split at he
 ·rename_i hc
  split at he
  ·cases he
  ·rename_i l vs hv
   cases he;exact Qc0 (Qam h) (recd_sf hE _ _ _ h.adv hv) (Qax h hc (by decide))
 cases he
theorem Qdm(hE:Sh E)(lhs:Ex)(ts:Toks)(x:Ex)(us:Toks)(h:Wf ts)(he:access L E lhs ts=some (some (x,us))):Sf us ts∧us.length<ts.length:=by
 rw[access]at he;split at he
 ·rename_i hc
  have hl:=Qax h hc (by decide);split at he
  ·split at he
   ·split at he
    ·cases he
    ·rename_i l vs hv
     have h1:=Qdf hE _ _ _ _ h.adv.adv.adv hv;split at he
     ·cases he
     ·cases he
      exact Qc0 (Qam h) ((Qam (h1.wf h.adv.adv.adv)).trans (h1.trans ((Qam h.adv.adv).trans (Qam h.adv)))) hl
   ·cases he;exact Qc0 (Qam h) (Qam h.adv) hl
  ·cases he
 split at he
 ·rename_i hc
  have hl:=Qax h hc (by decide);split at he
  ·split at he
   ·cases he
   ·split at he
    ·cases he
    ·rename_i vs hv
     cases he;exact Qc0 (Qam h) ((QaC h.adv.adv hv).trans (Qam h.adv)) hl
  ·cases he
 cases he
theorem memL_sf(hE:Sh E):∀f y,Sh0 (memL L E f y):=by
 intro f
 induction f with
 | zero=>intro r ts x us h he;cases he
 | succ f ih =>
  intro r ts x us h he;rw[memL]at he;split at he
  ·cases he
  ·cases he;exact h.refl
  ·rename_i y vs hv
   have h1:=(Qdm hE _ _ _ _ h hv).1;exact(ih _ _ _ _ (h1.wf h) he).trans h1
theorem Qg5(hE:Sh E):Sh (member L E):=by
 intro ts x us h he;rw[member]at he;split at he
 ·cases he
 ·rename_i y vs hv
  have h1:=QcS hE _ _ _ h hv;exact Qc0 h1.1 (memL_sf hE _ _ _ _ _ (h1.1.wf h) he) h1.2
theorem Qg6:∀f acc (ts:Toks),Wf ts→Sf (opsL f acc ts).2 ts:=by
 intro f
 induction f with
 | zero=>intro acc ts h;exact h.refl
 | succ f ih =>
  intro acc ts h;rw[opsL];split
  ·exact(ih _ _ h.adv).trans (Qam h)
  ·split
   ·exact(ih _ _ h.adv).trans (Qam h)
   ·exact h.refl
theorem Qcw(hE:Sh E):Sh (unary L E):=by
 intro ts x us h he;rw[unary]at he;have h0:=Qg6 (ts.length+1) [] ts h;have w0:=h0.wf h;split at he
 ·rename_i hc
  split at he
  ·cases he
  ·cases he
   have:=QbZ w0 hc.2 (by decide);exact⟨(Qam w0).trans h0,Nat.lt_of_lt_of_le this h0.len⟩
 ·split at he
  ·cases he
  ·rename_i y vs hv
   cases he;have h1:=Qg5 hE _ _ _ w0 hv;exact⟨h1.1.trans h0,Nat.lt_of_lt_of_le h1.2 h0.len⟩
theorem multL_sf(hE:Sh E):∀f y,Sh0 (Qcj L E f y):=by
 intro f
 induction f with
 | zero=>intro r ts x us h he;cases he
 | succ f ih =>
  intro r ts x us h he;rw[Qcj]at he;split at he
  ·split at he
   ·cases he
   ·rename_i y vs hv
    have h1:=(Qcw hE _ _ _ h.adv hv).1;exact(ih _ _ _ _ (h1.wf h.adv) he).trans (h1.trans (Qam h))
  ·cases he;exact h.refl
theorem Qca(hE:Sh E):Sh (mult L E):=by
 intro ts x us h he;rw[mult]at he;split at he
 ·cases he
 ·rename_i y vs hv
  have h1:=Qcw hE _ _ _ h hv;exact Qc0 h1.1 (multL_sf hE _ _ _ _ _ (h1.1.wf h) he) h1.2
theorem addL_sf(hE:Sh E):∀f y,Sh0 (addL L E f y):=by
 intro f
 induction f with
 | zero=>intro r ts x us h he;cases he
 | succ f ih =>
  intro r ts x us h he;rw[addL]at he;split at he
  ·split at he
   ·cases he
   ·rename_i y vs hv
    have h1:=(Qca hE _ _ _ h.adv hv).1;exact(ih _ _ _ _ (h1.wf h.adv) he).trans (h1.trans (Qam h))
  ·split at he
   ·split at he
    ·cases he
    ·rename_i y vs hv
     have h1:=(Qca hE _ _ _ h.adv hv).1;exact(ih _ _ _ _ (h1.wf h.adv) he).trans (h1.trans (Qam h))
   ·cases he;exact h.refl
theorem Qer(hE:Sh E):Sh (add L E):=by
 intro ts x us h he;rw[add]at he;split at he
 ·cases he
 ·rename_i y vs hv
  have h1:=Qca hE _ _ _ h hv;exact Qc0 h1.1 (addL_sf hE _ _ _ _ _ (h1.1.wf h) he) h1.2
theorem hasL_sf:∀f y z,Sh0 (hasL f y z):=by
 intro f
 induction f with
 | zero=>intro r z ts x us h he;cases he
 | succ f ih =>
  intro r z ts x us h he;rw[hasL]at he;split at he
  ·split at he
   ·exact(ih _ _ _ _ _ h.adv.adv he).trans ((Qam h.adv).trans (Qam h))
   ·cases he
  ·cases he;exact h.refl
theorem has_sf(lhs:Ex):Sh0 (has L lhs):=by
 intro ts x us h he;rw[has]at he;split at he
 ·exact(hasL_sf _ _ _ _ _ _ h.adv he).trans (Qam h)
 ·split at he
  ·split at he
   ·cases he
   ·cases he;exact Qam h
  ·cases he
theorem like_sf(lhs:Ex):Sh0 (like L lhs):=by
 intro ts x us h he;rw[like]at he;split at he
 ·split at he
  ·cases he
  ·cases he;exact Qam h
 ·cases he
theorem is_sf(hE:Sh E)(lhs:Ex):Sh0 (is L E lhs):=by
 intro ts x us h he;rw[is]at he;split at he
 ·cases he
 ·rename_i p vs hv
  have h1:=(QcR _ _ _ h hv).1;have w1:=h1.wf h;split at he
  ·split at he
   ·cases he
   ·rename_i y zs hz
    cases he;exact((Qer hE _ _ _ w1.adv hz).1).trans ((Qam w1).trans h1)
  ·cases he;exact h1
theorem Qbu(hE:Sh E):Sh (relation L E):=by
 intro ts x us h he;rw[relation]at he;split at he
 ·cases he
 ·rename_i y vs hv
  have h1:=Qer hE _ _ _ h hv;have w1:=h1.1.wf h;refine Qc0 h1.1 ?_ h1.2;split at he
  ·exact(has_sf _ _ _ _ w1.adv he).trans (Qam w1)
  split at he
  ·exact(like_sf _ _ _ _ w1.adv he).trans (Qam w1)
  split at he
  ·exact(is_sf hE _ _ _ _ w1.adv he).trans (Qam w1)
  split at he
  ·cases he;exact w1.refl
  ·split at he
   ·cases he
   ·rename_i z zs hz
    cases he;exact((Qer hE _ _ _ w1.adv hz).1).trans (Qam w1)
theorem andL_sf(hE:Sh E):∀f y,Sh0 (andL L E f y):=by
 intro f
 induction f with
 | zero=>intro r ts x us h he;cases he
 | succ f ih =>
  intro r ts x us h he;rw[andL]at he;split at he
  ·split at he
   ·cases he
   ·rename_i y vs hv
    have h1:=(Qbu hE _ _ _ h.adv hv).1;exact(ih _ _ _ _ (h1.wf h.adv) he).trans (h1.trans (Qam h))
  ·cases he;exact h.refl
theorem QdJ(hE:Sh E):Sh (and L E):=by
 intro ts x us h he;rw[and]at he;split at he
 ·cases he
 ·rename_i y vs hv
  have h1:=Qbu hE _ _ _ h hv;exact Qc0 h1.1 (andL_sf hE _ _ _ _ _ (h1.1.wf h) he) h1.2
theorem orL_sf(hE:Sh E):∀f y,Sh0 (orL L E f y):=by
 intro f
 induction f with
 | zero=>intro r ts x us h he;cases he
 | succ f ih =>
  intro r ts x us h he;rw[orL]at he;split at he
  ·split at he
   ·cases he
   ·rename_i y vs hv
    have h1:=(QdJ hE _ _ _ h.adv hv).1;exact(ih _ _ _ _ (h1.wf h.adv) he).trans (h1.trans (Qam h))
  ·cases he;exact h.refl
theorem or_sh(hE:Sh E):Sh (or L E):=by
 intro ts x us h he;rw[or]at he;split at he
 ·cases he
 ·rename_i y vs hv
  have h1:=QdJ hE _ _ _ h hv;exact Qc0 h1.1 (orL_sf hE _ _ _ _ _ (h1.1.wf h) he) h1.2
theorem exprB_sh(hE:Sh E):Sh (QbH L E):=by
 intro ts x us h he;rw[QbH]at he;split at he
 ·rename_i hc
  refine Qc0 (Qam h) ?_ (Qax h hc (by decide));split at he
  ·cases he
  ·rename_i y v1 hv
   have h1:=(hE _ _ _ h.adv hv).1;split at he
   ·cases he
   ·rename_i v2 hv2
    have h2:=QaC (h1.wf h.adv) hv2;have w2:=h2.wf (h1.wf h.adv);split at he
    ·cases he
    ·rename_i z v3 hv3
     have h3:=(hE _ _ _ w2 hv3).1;split at he
     ·cases he
     ·rename_i v4 hv4
      have h4:=QaC (h3.wf w2) hv4;have w4:=h4.wf (h3.wf w2);split at he
      ·cases he
      ·rename_i q v5 hv5
       cases he;exact(hE _ _ _ w4 hv5).1.trans (h4.trans (h3.trans (h2.trans h1)))
 ·exact or_sh hE _ _ _ h he
theorem QdZ:∀f,Sh (expr L f):=by
 intro f
 induction f with
 | zero=>intro ts x us h he;cases he
 | succ f ih=>exact exprB_sh ih
end Go.Proofs.Pg
namespace Go.Proofs.Pg
open Go.RowKit
attribute [local go_sem] Oper.semAt_some
def QfY(bp base:Nat)(w:World)(r:Option (Ex×Toks))(e:Ending)(w':World):Prop :=
 Ext (·=bp) w w'∧match r with
 | none=>∃T v,e=.returned (.tuple #[.agg #[.nilIface],.iface T v])
 | some (x,us)=>∃T v,e=.returned (.tuple #[.agg #[.iface T v],.nilIface])∧PS w' bp base us∧NodeIs w' base (.iface T v) x
def FnC(f:FuncId)(m:Toks→Option (Ex×Toks))(bp base N:Nat):Prop :=
 ∀w ts,PS w bp base ts→Wf ts→ts.length≤N→base≤w.heap.size→Calls Tryz.prog f #[.pointer (some ⟨bp,0,none⟩)] w (QfY bp base w (m ts))
theorem Qai{W:World}{fn:Func}{R:Nat}{v err:Value}{Q:Ending→World→Prop}(a:Act)(s s2:Nat)(hf:fn.results=#[.cell s 299,.tmp s2])(ha:a.tmps.getD s undef=.pointer (some ⟨R,0,none⟩))(he:a.tmps.getD s2 undef=err)(had:a.defers=[])
  (r:W.heap[R]? =some (.cells #[v] 299 (0,0)))(h:Q (.returned (.tuple #[.agg #[v],err])) W):bodyPost Tryz.prog fn Q Exit.ret a W:=by
 refine bodyPost_ret (QaH (a:=s) (t:=299) hf _ ⟨R,0,none⟩ ha _ _ (QcP _ _ _ _ (by kernel_rfl) (by kernel_rfl) (Qaa (o:=0) r rfl))) had ?_;rw[he];exact h
theorem PS.ne{w:World}{bp base:Nat}{ts:Toks}(h:PS w bp base ts):ts≠[]:=by
 obtain⟨_,_,_,_,_,_,_,_,_,_,f,_⟩:=h.ex;exact f
theorem NodeIs.store{w:World}{lo d o:Nat}{v:Value}{x:Ex}{c:Array Value}{T:TypeId}{fr:Nat×Nat}(h:NodeIs w lo v x)(hd:w.heap[d]? =some (.cells c T fr))(hT:(T≠136∧T≠221∧T≠316))(u:Value):NodeIs (w.setCell ⟨d,o,none⟩ u) lo v x :=
 h.ext (S:=(·=d)) ((Ext.refl (·=d) w).set (p:=⟨d,o,none⟩) (.inl rfl) u) (by rintro e rfl;exact .inr (.inr ⟨c,T,fr,hd,hT⟩))
theorem NodeIs.keep{w w':World}{lo:Nat}{S:Nat→Prop}{v:Value}{x:Ex}(h:NodeIs w lo v x)(he:Ext S w w')(hs:∀d,S d→d<lo):NodeIs w' lo v x:=h.ext he (fun d hd=>.inl (hs d hd))
theorem NodeIs.later{w w':World}{lo:Nat}{v:Value}{x:Ex}(h:NodeIs w lo v x)(hb:Below w.heap.size w w'):NodeIs w' lo v x:=h.ext (S:=fun _=>False) (.below hb) (fun d hd=>hd.elim)
def left(w:World)(bp:Nat):Nat:=match w.cell? ⟨bp,0,none⟩,w.cell? ⟨bp,1,none⟩with
 | some (.slice _ n _),some (.int _ k)=>n-k.toNat
 | _,_=>0
theorem PS.left{w:World}{bp base:Nat}{ts:Toks}(h:PS w bp base ts):left w bp=ts.length:=by
 obtain⟨bt,off,n,cap,k,a,b,hbt,d,hn,f,g⟩:=h.ex;unfold Pg.left;rw[Qaa (o:=0) b rfl,Qaa (o:=1) b rfl];show n-(k:Int).toNat=_;omega
theorem Qa0{w:World}{bp base:Nat}{t:Tok}{ts:List Tok}{l:List UInt8}(hp:PS w bp base (t::ts))(h:(t.tx.toList==l)=true) :
  Calls Tryz.prog 70 #[.pointer (some ⟨bp,0,none⟩),.string ⟨l.toArray⟩] w fun e w'=>e=.returned .nilIface∧PS w' bp base (adv (t::ts))∧Ext (·=bp) w w':=Qg3 hp _ (by rw[ByteArray.toList_mk l];exact h)
theorem Qa9{w:World}{bp base:Nat}{t:Tok}{ts:List Tok}{l:List UInt8}(hp:PS w bp base (t::ts))(h:(t.tx.toList==l)=false) :
  Calls Tryz.prog 70 #[.pointer (some ⟨bp,0,none⟩),.string ⟨l.toArray⟩] w fun e w'=>∃T x,e=.returned (.iface T x)∧PS w' bp base (adv (t::ts))∧Ext (·=bp) w w':=exact_no hp _ (by rw[ByteArray.toList_mk l];exact h)
def StrP(bp base:Nat)(w:World)(r:Option (ByteArray×Toks))(e:Ending)(w':World):Prop :=
 Ext (·=bp) w w'∧match r with
 | none=>∃s T v,e=.returned (.tuple #[.string s,.iface T v])
 | some (s,us)=>e=.returned (.tuple #[.string s,.nilIface])∧PS w' bp base us∧s.size+us.length*1000002≤2000000000000
def PathRel(bp base N:Nat)(w:World)(Rm:Option (ByteArray×Toks))(s:Value)(wr:World):Prop :=
 ∃g r vs,s=.string r∧Qcz g r vs=Rm∧vs.length<g∧Wf vs∧vs.length≤N∧PS wr bp base vs∧Ext (·=bp) w wr∧r.size+vs.length*1000002≤2000000000000
theorem pathL_w{bp base:Nat}(w:World)(ts:Toks)(r0:ByteArray)(g0:Nat)(hp:PS w bp base ts)(hwf:Wf ts)(hg0:ts.length<g0)(hbs:base≤w.heap.size)(hz:r0.size+ts.length*1000002≤2000000000000) :
  Calls Tryz.prog 144 #[.pointer (some ⟨bp,0,none⟩),.string r0] w (StrP bp base w (Qcz g0 r0 ts)):=by
 have hbb:=hp.hbp;go_enter Tryz.func144,Tryz.ntmps144
 go_wp2_with fail
 go_loopw [6] (fun s wr=>PathRel bp base ts.length w (Qcz g0 r0 ts) s wr) (fun _ wr=>left wr bp)
 case atStart=>exact⟨g0,r0,ts,rfl,rfl,hg0,hwf,Nat.le_refl _,hp,Ext.refl _ _,hz⟩
 case round =>
  clear hp hwf hg0 hz;obtain⟨wo,rfl⟩:∃wo:World,wo=wr:=⟨_,rfl⟩
  obtain⟨g,r1,vs,rfl,hg,hgl,hvw,hvN,hpv,hXr,hzr⟩:=hrel;have HG:=Hi hg;clear hg;cases g with
  | zero=>omega
  | succ g =>
  obtain⟨t,r,rfl⟩:∃t r,vs=t::r:=by cases vs with | nil=>exact absurd rfl hpv.ne | cons t r=>exact⟨t,r,rfl⟩
  have hlf:=hpv.left;have HLF:=Hi hlf;clear hlf
  go_wp2_with fail
  refine(Qa7 hpv).mono ?_;rintro e w2⟨rfl,hb2⟩;have hp2:=hpv.below hb2;have hX2:=hXr.trans (.below hb2);have hs2:=hb2.size;clear hb2 hpv hXr;cases ht:(t.tx.toList==[58,58])with
  | false =>
   have hres:Qcz g0 r0 ts=some (r1,t::r):=by rw[←HG.out,Qcz];simp[tx,ht]
   have HR:=Hi hres;clear hres;go_wp2
   go_ret2
   rw[HR.out];exact⟨hX2,rfl,hp2,hzr⟩
  | true =>
   have hav:(adv (t::r)).length<(t::r).length:=Qax hvw (s:=[58,58]) ht (by decide)
   go_wp2_with fail
   refine(Qaz hp2).mono ?_;rintro e w3⟨rfl,hp3,hX⟩;have hX3:=hX2.trans hX;have hs3:=hX.size;clear hX hX2 hp2;obtain⟨u,q,hu⟩:∃u q,adv (t::r)=u::q:=by cases h:adv (t::r)with | nil=>exact absurd h hvw.adv.ne | cons u q=>exact⟨u,q,rfl⟩
   rw[hu]at hp3 hav;have hwu:Wf (u::q):=hu▸hvw.adv;have huz:=hp3.sz;have HU:=Hi hu;clear hu
   go_wp2_with fail
   refine(Qaz hp3).mono ?_;rintro e w4⟨rfl,hp4,hX⟩;have hX4:=hX3.trans hX;clear hX hX3 hp3;have hu4:(adv (u::q)).length≤(u::q).length:=(Qam hwu).len
   go_upto_region 7 with(fail)
   obtain⟨w5,hw⟩:∃w5,w4.alloc (.cells #[.int .i64 u.ty,.string u.fn,.int .i64 u.off,.int .i64 u.ln,.int .i64 u.col,.string u.tx] 122)=w5:=⟨_,rfl⟩
   rw[hw];have hb:Below w4.heap.size w4 w5:=by rw[←hw];exact Qab _ _
   have htok:w5.heap[w4.heap.size]? =some (.cells u.row 122 (0,0)):=by rw[←hw];exact heap_alloc_new _ _
   have hp5:=hp4.below hb;have hX5:=hX4.trans (.below hb);have k0:w5.cell? ⟨w4.heap.size,0,none⟩=some (.int .i64 u.ty):=Qaa htok rfl;have k1:w5.cell? ⟨w4.heap.size,1,none⟩=some (.string u.fn):=Qaa htok rfl;have k2:w5.cell? ⟨w4.heap.size,2,none⟩=some (.int .i64 u.off):=Qaa htok rfl;have k3:w5.cell? ⟨w4.heap.size,3,none⟩=some (.int .i64 u.ln):=Qaa htok rfl;have k4:w5.cell? ⟨w4.heap.size,4,none⟩=some (.int .i64 u.col):=Qaa htok rfl
   have k5:w5.cell? ⟨w4.heap.size,5,none⟩=some (.string u.tx):=Qaa htok rfl;clear hw hb hp4 hX4 htok
   go_wp2_with fail
   refine(Qbd u _).mono ?_;rintro e w6⟨rfl,hb6⟩;have hp6:=hp5.below hb6;have hX6:=hX5.trans (.below hb6);have k5':=QbR hb6 (QcN k5) k5;clear hb6 hp5 hX5 k0 k1 k2 k3 k4 k5;cases hi:(u.ty==1)with
   | false =>
    go_wp2_with fail
    refine(Qay hp6 _ _).mono ?_;rintro e w7⟨T,v,rfl,hb7⟩;have hX7:=hX6.trans (.below hb7);have hres:Qcz g0 r0 ts=none:=by rw[←HG.out,Qcz];simp[tx,ht,HU.out,ty,hd,hi]
    have HR:=Hi hres;clear hres;clear hb7 hX6;go_wp2
    go_ret2
    rw[HR.out];exact⟨hX7,_,_,_,rfl⟩
   | true =>
    have hres:Qcz g0 r0 ts=Qcz g (r1++(⟨#[58,58]⟩:ByteArray)++u.tx) (adv (u::q)):=by rw[←HG.out,Qcz];simp[tx,ht,HU.out,ty,hd,hi]
    have HR:=Hi hres;clear hres;go_wp2;refine⟨⟨g,_,_,rfl,HR.out.symm,by omega,hwu.adv,by omega,hp6,hX6,?_⟩,by rw[hp6.left,HLF.out];omega⟩;have e2:(⟨#[58,58]⟩:ByteArray).size=2:=rfl;rw[ByteArray.size_append,ByteArray.size_append,e2];omega
theorem Qg7{bp base:Nat}(w:World)(ts:Toks)(hp:PS w bp base ts)(hwf:Wf ts)(hbs:base≤w.heap.size) :
  Calls Tryz.prog 98 #[.pointer (some ⟨bp,0,none⟩)] w (StrP bp base w (path ts)):=by
 have hbb:=hp.hbp;obtain⟨u,q,rfl⟩:∃u q,ts=u::q:=by cases ts with | nil=>exact absurd rfl hp.ne | cons u q=>exact⟨u,q,rfl⟩
 have huz:=hp.sz;have hle:=hp.len;have hav:(adv (u::q)).length≤(u::q).length:=(Qam hwf).len;go_enter Tryz.func98,Tryz.ntmps98
 go_wp2_with fail
 refine(Qaz hp).mono ?_;rintro e w4⟨rfl,hp4,hX4⟩;have hs4:=hX4.size
 go_upto_region 2 with(fail)
 obtain⟨w5,hw⟩:∃w5,w4.alloc (.cells #[.int .i64 u.ty,.string u.fn,.int .i64 u.off,.int .i64 u.ln,.int .i64 u.col,.string u.tx] 122)=w5:=⟨_,rfl⟩
 rw[hw];have hb:Below w4.heap.size w4 w5:=by rw[←hw];exact Qab _ _
 have htok:w5.heap[w4.heap.size]? =some (.cells u.row 122 (0,0)):=by rw[←hw];exact heap_alloc_new _ _
 have hs5:=hb.size;have hp5:=hp4.below hb;have hX5:=hX4.trans (.below hb);have k0:w5.cell? ⟨w4.heap.size,0,none⟩=some (.int .i64 u.ty):=Qaa htok rfl;have k1:w5.cell? ⟨w4.heap.size,1,none⟩=some (.string u.fn):=Qaa htok rfl;have k2:w5.cell? ⟨w4.heap.size,2,none⟩=some (.int .i64 u.off):=Qaa htok rfl;have k3:w5.cell? ⟨w4.heap.size,3,none⟩=some (.int .i64 u.ln):=Qaa htok rfl;have k4:w5.cell? ⟨w4.heap.size,4,none⟩=some (.int .i64 u.col):=Qaa htok rfl
 have k5:w5.cell? ⟨w4.heap.size,5,none⟩=some (.string u.tx):=Qaa htok rfl;clear hw hb hp4 hX4 htok hp
 go_wp2_with fail
 refine(Qbd u _).mono ?_;rintro e w6⟨rfl,hb6⟩;have hp6:=hp5.below hb6;have hX6:=hX5.trans (.below hb6);have hs6:=hb6.size;have k5':=QbR hb6 (QcN k5) k5;clear hb6 hp5 hX5 k0 k1 k2 k3 k4 k5;cases hi:(u.ty==1)with
 | false =>
  go_wp2_with fail
  refine(Qay hp6 _ _).mono ?_;rintro e w7⟨T,v,rfl,hb7⟩;have hX7:=hX6.trans (.below hb7);have hres:path (u::q)=none:=by unfold Pg.path;simp[ty,hd,hi]
  have HR:=Hi hres;clear hres;clear hb7 hX6;go_wp2
  go_ret2
  rw[HR.out];exact⟨hX7,_,_,_,rfl⟩
 | true =>
  have hres:path (u::q)=Qcz ((u::q).length+1) u.tx (adv (u::q)):=by unfold Pg.path;simp[ty,hd,hi]
  have HR:=Hi hres;clear hres
  go_wp2_with fail
  refine(pathL_w w6 _ u.tx ((u::q).length+1) hp6 hwf.adv (by omega) (by omega) (by omega)).mono ?_;rintro e w7⟨hX,hr⟩;have hX7:=hX6.trans hX;clear hX hX6 hp6 k5';cases hm:Qcz ((u::q).length+1) u.tx (adv (u::q))with
  | none =>
   rw[hm]at hr;obtain⟨s,T,v,rfl⟩:=hr;have HM:=Hi hm;clear hm;go_wp2
   go_ret2
   rw[HR.out,HM.out];exact⟨hX7,_,_,_,rfl⟩
  | some p =>
   obtain⟨s,us⟩:=p;rw[hm]at hr;obtain⟨rfl,hp7,hz7⟩:=hr;have HM:=Hi hm;clear hm;go_wp2
   go_ret2
   rw[HR.out,HM.out];exact⟨hX7,rfl,hp7,hz7⟩
theorem Qak{bp base:Nat}{w w':World}{r:Option (Ex×Toks)}{T:TypeId}{v:Value}(h:r=none)(he:Ext (·=bp) w w'):QfY bp base w r (.returned (.tuple #[.agg #[.nilIface],.iface T v])) w':=by
 subst h;exact⟨he,T,v,rfl⟩
theorem Qal{bp base:Nat}{w w':World}{r:Option (Ex×Toks)}{x:Ex}{us:Toks}{T:TypeId}{v:Value}(h:r=some (x,us))(he:Ext (·=bp) w w')(hp:PS w' bp base us)(hn:NodeIs w' base (.iface T v) x):QfY bp base w r (.returned (.tuple #[.agg #[.iface T v],.nilIface])) w':=by
 subst h;exact⟨he,T,v,rfl,hp,hn⟩
def LpRel(loop:Nat→Ex→Toks→Option (Ex×Toks))(bp base N R lb:Nat)(w:World)(Rm:Option (Ex×Toks))(wr:World):Prop :=
 ∃g y vs T v,loop g y vs=Rm∧vs.length<g∧Wf vs∧vs.length≤N∧PS wr bp base vs∧NodeIs wr base (.iface T v) y∧wr.heap[lb]? =some (.cells #[.iface T v] 299 (0,0))∧wr.heap[R]? =some (.cells #[.nilIface] 299 (0,0))∧Ext (·=bp) w wr
theorem or_w{L:Lex}{E:Toks→Option (Ex×Toks)}{bp base N:Nat}(hE:Sh E)(hA:FnC 194 (and L E) bp base N):FnC 175 (or L E) bp base N:=by
 intro w ts hp hwf hN hbs;have hbb:=hp.hbp;have HA:=Hi hA;clear hA;have HE:=Hi hE;clear hE;go_enter Tryz.func175,Tryz.ntmps175
 go_wp2_with fail
 refine(HA.out _ ts (hp.below (Qab _ _)) hwf hN (by simp;omega)).mono ?_;rintro e w1⟨hX,hr⟩;have hs1:w.heap.size+1≤w1.heap.size:=by have:=hX.size;simpa using this
 have hR1:w1.heap[w.heap.size]? =some (.cells #[.nilIface] 299 (0,0)):=hX.heap (by omega) (heap_alloc_new w _);have hX0:Ext (·=bp) w w1:=((Ext.refl _ w).alloc _).trans hX;clear hX;cases hm:and L E ts with
 | none =>
  rw[hm]at hr;obtain⟨T,v,rfl⟩:=hr;have HM:=Hi hm;clear hm;have c0:w1.cell? ⟨w.heap.size,0,none⟩=some .nilIface:=Qaa hR1 rfl;have f0:∀o,(w1.alloc o).frozen? ⟨w.heap.size,0,none⟩=false:=fun o=>Qae (Qaf hR1 o) 0
  have hlt:w.heap.size<w1.heap.size:=by omega
  have H1:=Hi hR1;clear hR1;go_wp2;exact Qai (R:=w.heap.size) _ 2 3 (by kernel_rfl) rfl rfl rfl (Qaf (Qac (o:=0) H1.out _) _) (Qak (by unfold Pg.or;rw[HM.out]) ((hX0.set (.inr (Nat.le_refl _)) _).alloc _))
 | some p =>
  obtain⟨x,us⟩:=p;rw[hm]at hr;obtain⟨T,v,rfl,hp1,hn1⟩:=hr;have hsh:=QdJ HE.out _ _ _ hwf hm;have hfin:or L E ts=orL L E (us.length+1) x us:=by unfold Pg.or;rw[hm]
  have HF:=Hi hfin;clear hm hfin
  go_wp2_with fail
  go_loopw [18] (fun u wr=>LpRel (orL L E) bp base N w.heap.size w1.heap.size w (orL L E (us.length+1) x us) wr) (fun _ wr=>left wr bp)
  case atStart =>
   exact⟨us.length+1,x,us,T,v,rfl,by omega,hsh.1.wf hwf,by omega,hp1.below (Qab _ _),hn1.later (Qab _ _),heap_alloc_new _ _,Qaf hR1 _,hX0.alloc _⟩
  case round =>
   clear hR1 hp1 hn1 hsh hX0;obtain⟨wo,rfl⟩:∃wo:World,wo=wr:=⟨_,rfl⟩
   obtain⟨g,y,vs,Ty,vy,hg,hgl,hvw,hvN,hpv,hny,hlb,hRr,hXr⟩:=hrel;have HG:=Hi hg;clear hg;cases g with
   | zero=>omega
   | succ g =>
   obtain⟨t,r,rfl⟩:∃t r,vs=t::r:=by cases vs with | nil=>exact absurd rfl hpv.ne | cons t r=>exact⟨t,r,rfl⟩
   go_wp2_with fail
   refine(Qa7 hpv).mono ?_;rintro e w2⟨rfl,hb2⟩;have hp2:=hpv.below hb2;have hn2:=hny.later hb2;have hlb2:=Bk hb2 hlb;have hR2:=Bk hb2 hRr;have hX2:=hXr.trans (.below hb2);have hlf:=hpv.left;have hs2:=hb2.size;clear hb2 hpv hny hlb hRr hXr;cases ht:(t.tx.toList==[124,124])with
   | false =>
    have hlt1:=Qad hlb2;have hlt2:=Qad hR2;have c1:w2.cell? ⟨w1.heap.size,0,none⟩=some (.iface Ty vy):=Qaa hlb2 rfl;have c2:w2.cell? ⟨w.heap.size,0,none⟩=some .nilIface:=Qaa hR2 rfl;have f2:w2.frozen? ⟨w.heap.size,0,none⟩=false:=Qae hR2 0;have H2:=Hi hR2;clear hR2 hlb2 hlf;go_wp2;have hres:orL L E (us.length+1) x us=some (y,t::r):=by
     rw[←HG.out,orL];simp[tx,ht]
    exact Qai (R:=w.heap.size) _ 2 3 (by kernel_rfl) rfl rfl rfl (Qac (o:=0) H2.out _) (Qal (by rw[HF.out,hres]) (hX2.set (.inr (Nat.le_refl _)) _) (hp2.set (by omega) _) (hn2.store H2.out (by decide) _))
   | true =>
    go_wp2_with fail
    refine(Qaz hp2).mono ?_;rintro e w3⟨rfl,hp3,hX3⟩;have hn3:=hn2.keep hX3 (fun d hd=>by omega);have hlb3:=hX3.heap (by omega) hlb2;have hR3:=hX3.heap (by omega) hR2;have hX3':=hX2.trans hX3;have hs3:=hX3.size;have hav:(adv (t::r)).length<(t::r).length:=Qax hvw (s:=[124,124]) ht (by decide);clear hX3 hp2 hn2 hlb2 hR2 hX2
    go_wp2_with fail
    refine(HA.out _ _ hp3 hvw.adv (by omega) (by have:=hX3'.size;omega)).mono ?_;rintro e w4⟨hX4,hr4⟩;have hn4:=hn3.keep hX4 (fun d hd=>by omega);have hlb4:=hX4.heap (by omega) hlb3;have hR4:=hX4.heap (by omega) hR3;have hX4':=hX3'.trans hX4;have hs4:=hX4.size;clear hX4 hp3 hn3 hlb3 hR3 hX3';cases hm2:and L E (adv (t::r))with
    | none =>
     rw[hm2]at hr4;obtain⟨T4,v4,rfl⟩:=hr4;have c0:w4.cell? ⟨w.heap.size,0,none⟩=some .nilIface:=Qaa hR4 rfl;have f0:∀o,(w4.alloc o).frozen? ⟨w.heap.size,0,none⟩=false:=fun o=>Qae (Qaf hR4 o) 0
     have hlt:=Qad hR4;have hres:orL L E (us.length+1) x us=none:=by
      rw[←HG.out,orL,if_pos (by simpa [tx]using ht),hm2]
     have H1:=Hi hR4;clear hR4 hlf hm2;have HR:=Hi hres;clear hres;go_wp2;exact Qai (R:=w.heap.size) _ 2 3 (by kernel_rfl) rfl rfl rfl (Qaf (Qac (o:=0) H1.out _) _) (Qak (by rw[HF.out,HR.out]) ((hX4'.set (.inr (Nat.le_refl _)) _).alloc _))
    | some p =>
     obtain⟨z,zs⟩:=p;rw[hm2]at hr4;obtain⟨T4,v4,rfl,hp4,hz4⟩:=hr4;have hsh:=QdJ HE.out _ _ _ hvw.adv hm2;have hres:orL L E (us.length+1) x us=orL L E g (.bin 260 y z) zs:=by
      rw[←HG.out,orL,if_pos (by simpa [tx]using ht),hm2]
     have HR:=Hi hres;clear hres hm2;have c1:w4.cell? ⟨w1.heap.size,0,none⟩=some (.iface Ty vy):=Qaa hlb4 rfl;have hlt:=Qad hlb4;have HL4:=Hi hlb4;have HR4:=Hi hR4;have HLF:=Hi hlf;clear hlb4 hR4 hlf
     go_wp2_with fail
     refine(n195_c _ _ _ _ _).mono ?_;rintro e w5⟨rfl,hb5⟩;have hb5':Below w4.heap.size w4 w5:=(Qab w4 _).trans (hb5.mono (by simp));have hlb5:=(hb5'.block _ hlt).trans HL4.out;have hR5:=(hb5'.block _ (Qad HR4.out)).trans HR4.out;have c5:w5.cell? ⟨w1.heap.size,0,none⟩=some (.iface Ty vy):=Qaa hlb5 rfl;have f5:w5.frozen? ⟨w1.heap.size,0,none⟩=false:=Qae hlb5 0;have H5:=Hi hlb5;have G5:=Hi hR5;clear hlb5 hR5 c1 hb5
     go_wp2;go_roundw
     case rel =>
      refine⟨g,_,zs,260,_,HR.out.symm,?_,hsh.1.wf hvw.adv,?_,(hp4.below hb5').set (by omega) _,?_,Qac (o:=0) H5.out _,Qag G5.out (by omega) _,(hX4'.trans (.below hb5')).set (p:=⟨w1.heap.size,0,none⟩) (.inr (show w.heap.size≤w1.heap.size by omega)) _⟩
      ·have:=hsh.2;omega
      ·have:=hsh.2;omega
      ·exact .bin 260 _ _ _ _ ((hn4.later hb5').store H5.out (by decide) _) ((hz4.later hb5').store H5.out (by decide) _)
     case measure =>
      rw[((hp4.below hb5').set (by omega) _).left,HLF.out];have:=hsh.2;omega
end Go.Proofs.Pg
