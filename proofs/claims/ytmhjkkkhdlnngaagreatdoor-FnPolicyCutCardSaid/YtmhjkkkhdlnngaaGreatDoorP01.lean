/- FnPolicyCut, part 1. -/
set_option linter.all false
set_option maxRecDepth 100000
set_option maxHeartbeats 0
namespace Go.Proofs.Pg
structure Tok where
 ty:Int
 fn:ByteArray
 off:Int
 ln:Int
 col:Int
 tx:ByteArray
def adv:List Tok→List Tok
 | []=>[]
 | [t]=>[t]
 | _::u::ts=>u::ts
def tx:List Tok→List UInt8
 | []=>[]
 | t::_=>t.tx.toList
inductive Vl where
 | bool (b:Bool)
 | long (n:Int)
 | str (s:ByteArray)
 | uid (t i:ByteArray)
inductive Ex where
 | val (v:Vl)
 | var (s:ByteArray)
 | ite (a b c:Ex)
 | bin (op:Nat)(a b:Ex)
 | una (op:Nat)(a:Ex)
 | sop (op:Nat)(a:Ex)(s:ByteArray)
 | isIn (a:Ex)(s:ByteArray)(b:Ex)
 | like (a:Ex)(p:List (Bool×ByteArray))
 | call (s:ByteArray)(l:List Ex)
 | set (l:List Ex)
 | recd (l:List (ByteArray×Ex))
abbrev Toks:=List Tok
def hd:Toks→Tok
 | []=>⟨0,⟨#[]⟩,0,0,0,⟨#[]⟩⟩
 | t::_=>t
def ty(ts:Toks):Int:=(hd ts).ty
def Wf:Toks→Prop
 | []=>False
 | [t]=>t.ty=0∧t.tx.toList=[]
 | _::u::ts=>Wf (u::ts)
def exact(s:List UInt8)(ts:Toks):Option Toks:=if(tx ts==s)=true then some (adv ts)else none
structure Lex where
 str:ByteArray→Option ByteArray
 int:ByteArray→Option Int
 ext:ByteArray→Option Bool
 pat:ByteArray→Option (List (Bool×ByteArray))
section
variable (L:Lex)
def Qcz:Nat→ByteArray→Toks→Option (ByteArray×Toks)
 | 0,_,_=>none
 | f+1,r,ts=>if(tx ts==[58,58])=true then(if(ty (adv ts)==1)=true then Qcz f (r++(⟨#[58,58]⟩:ByteArray)++(hd (adv ts)).tx) (adv (adv ts))else none)else some (r,ts)
def path(ts:Toks):Option (ByteArray×Toks):=if(ty ts==1)=true then Qcz (ts.length+1) (hd ts).tx (adv ts)else none
def entL:Nat→ByteArray→Toks→Option ((ByteArray×ByteArray)×Toks)
 | 0,_,_=>none
 | f+1,r,ts=>match exact [58,58] ts with
  | none=>none
  | some us=>if(ty us==1)=true then entL f (r++(⟨#[58,58]⟩:ByteArray)++(hd us).tx) (adv us)else if(ty us==4)=true then(match L.str (hd us).tx with
   | none=>none
   | some s=>some ((r,s),adv us))else none
def entity(ts:Toks):Option ((ByteArray×ByteArray)×Toks):=if(ty ts==1)=true then entL L (ts.length+1) (hd ts).tx (adv ts)else none
variable (E:Toks→Option (Ex×Toks))
def QaE(close:List UInt8):Nat→List Ex→Toks→Option (List Ex×Toks)
 | 0,_,_=>none
 | f+1,acc,ts=>if(tx ts==close)=true then some (acc,ts)else match E ts with
  | none=>none
  | some (x,us)=>if(tx us==[44])=true then QaE close f (acc++[x]) (adv us)else if(tx us==close)=true then some (acc++[x],us)else none
def Qbr(close:List UInt8)(ts:Toks):Option (List Ex×Toks):=QaE E close (ts.length+1) [] ts
def key(ts:Toks):Option ByteArray:=if(ty ts==1)=true then some (hd ts).tx else if(ty ts==4)=true then L.str (hd ts).tx else none
def entry(ts:Toks):Option ((ByteArray×Ex)×Toks):=match key L ts with
 | none=>none
 | some k=>match exact [58] (adv ts)with
  | none=>none
  | some us=>match E us with
   | none=>none
   | some (x,vs)=>some ((k,x),vs)
def Qbz:Nat→List (ByteArray×Ex)→Toks→Option (List (ByteArray×Ex)×Toks)
 | 0,_,_=>none
 | f+1,acc,ts=>if(tx ts==[125])=true then some (acc,adv ts)else match entry L E ts with
  | none=>none
  | some ((k,x),us)=>if(acc.any fun p=>p.1.toList==k.toList)=true then none else if(tx us==[44])=true then Qbz f (acc++[(k,x)]) (adv us)else if(tx us==[125])=true then some (acc++[(k,x)],adv us)else none
def recd(ts:Toks):Option (List (ByteArray×Ex)×Toks):=Qbz L E (ts.length+1) [] ts
def Qa1:Nat→ByteArray→Toks→Option (Ex×Toks)
 | 0,_,_=>none
 | f+1,r,ts=>if(tx ts==[58,58])=true then(if(ty (adv ts)==1)=true then Qa1 f (r++(⟨#[58,58]⟩:ByteArray)++(hd (adv ts)).tx) (adv (adv ts))else if(ty (adv ts)==4)=true then(match L.str (hd (adv ts)).tx with
   | none=>none
   | some s=>some (.val (.uid r s),adv (adv ts)))else none)
  else if(tx ts==[40])=true then(match L.ext r with
   | some false=>(match Qbr E [41] (adv ts)with
    | none=>none
    | some (l,us)=>some (.call r l,adv us))
   | _=>none)else none
def vars(s:List UInt8):Option Ex :=
 if(s==[112,114,105,110,99,105,112,97,108])=true then some (.var (⟨#[112,114,105,110,99,105,112,97,108]⟩:ByteArray))else if(s==[97,99,116,105,111,110])=true then some (.var (⟨#[97,99,116,105,111,110]⟩:ByteArray))else if(s==[114,101,115,111,117,114,99,101])=true then some (.var (⟨#[114,101,115,111,117,114,99,101]⟩:ByteArray))else if(s==[99,111,110,116,101,120,116])=true then some (.var (⟨#[99,111,110,116,101,120,116]⟩:ByteArray))else none
def primary(ts:Toks):Option (Ex×Toks) :=
 if(ty ts==2)=true then(match L.int (hd ts).tx with
  | none=>none
  | some n=>some (.val (.long n),adv ts))
 else if(ty ts==4)=true then(match L.str (hd ts).tx with
  | none=>none
  | some s=>some (.val (.str s),adv ts))
 else if(tx ts==[116,114,117,101])=true then some (.val (.bool true),adv ts)
 else if(tx ts==[102,97,108,115,101])=true then some (.val (.bool false),adv ts)
 else if(ty ts==1)=true then(if(tx (adv ts)==[58,58])=true∨(tx (adv ts)==[40])=true then Qa1 L E (ts.length+1) (hd ts).tx (adv ts)else match vars (tx ts)with
  | none=>none
  | some x=>some (x,adv ts))
 else if(tx ts==[40])=true then(match E (adv ts)with
  | none=>none
  | some (x,us)=>match exact [41] us with
   | none=>none
   | some vs=>some (x,vs))
 else if(tx ts==[91])=true then(match Qbr E [93] (adv ts)with
  | none=>none
  | some (l,us)=>some (.set l,adv us))
 else if(tx ts==[123])=true then(match recd L E (adv ts)with
  | none=>none
  | some (l,us)=>some (.recd l,us))
 else none
def one(op:Nat)(lhs:Ex):List Ex→Option Ex
 | [x]=>some (.bin op lhs x)
 | _=>none
def method(name:ByteArray)(lhs:Ex)(l:List Ex):Option Ex :=
 if(name.toList==[99,111,110,116,97,105,110,115])=true then one 278 lhs l else if(name.toList==[99,111,110,116,97,105,110,115,65,108,108])=true then one 279 lhs l else if(name.toList==[99,111,110,116,97,105,110,115,65,110,121])=true then one 280 lhs l
 else if(name.toList==[104,97,115,84,97,103])=true then one 270 lhs l else if(name.toList==[103,101,116,84,97,103])=true then one 271 lhs l else if(name.toList==[105,115,69,109,112,116,121])=true then(match l with
  | []=>some (.una 210 lhs)
  | _=>none)
 else match L.ext name with
  | some true=>some (.call name (lhs::l))
  | _=>none
def access(lhs:Ex)(ts:Toks):Option (Option (Ex×Toks)) :=
 if(tx ts==[46])=true then(if(ty (adv ts)==1)=true then(if(tx (adv (adv ts))==[40])=true then(match Qbr E [41] (adv (adv (adv ts)))with
   | none=>none
   | some (l,us)=>match method L (hd (adv ts)).tx lhs l with
    | none=>none
    | some x=>some (some (x,adv us)))
   else some (some (.sop 194 lhs (hd (adv ts)).tx,adv (adv ts))))else none)
 else if(tx ts==[91])=true then(if(ty (adv ts)==4)=true then(match L.str (hd (adv ts)).tx with
   | none=>none
   | some s=>match exact [93] (adv (adv ts))with
    | none=>none
    | some us=>some (some (.sop 194 lhs s,us)))else none)
 else some none
def memL:Nat→Ex→Toks→Option (Ex×Toks)
 | 0,_,_=>none
 | f+1,x,ts=>match access L E x ts with
  | none=>none
  | some none=>some (x,ts)
  | some (some (y,us))=>memL f y us
def member(ts:Toks):Option (Ex×Toks):=match primary L E ts with
 | none=>none
 | some (x,us)=>memL L E (us.length+1) x us
def opsL:Nat→List Bool→Toks→List Bool×Toks
 | 0,acc,ts=>(acc,ts)
 | f+1,acc,ts=>if(tx ts==[45])=true then opsL f (acc++[true]) (adv ts)else if(tx ts==[33])=true then opsL f (acc++[false]) (adv ts)else(acc,ts)
def signed(l:List Bool)(x:Ex):Ex:=l.foldr (fun b y=>if b=true then .una 208 y else .una 209 y) x
def unary(ts:Toks):Option (Ex×Toks) :=
 let p:=opsL (ts.length+1) [] ts
 if p.1.getLast? =some true∧(ty p.2==2)=true then(match L.int ((⟨#[45]⟩:ByteArray)++(hd p.2).tx)with
  | none=>none
  | some n=>some (signed p.1.dropLast (.val (.long n)),adv p.2))
 else match member L E p.2 with
  | none=>none
  | some (x,us)=>some (signed p.1 x,us)
def Qcj:Nat→Ex→Toks→Option (Ex×Toks)
 | 0,_,_=>none
 | f+1,x,ts=>if(tx ts==[42])=true then(match unary L E (adv ts)with
  | none=>none
  | some (y,us)=>Qcj f (.bin 277 x y) us)else some (x,ts)
def mult(ts:Toks):Option (Ex×Toks):=match unary L E ts with
 | none=>none
 | some (x,us)=>Qcj L E (us.length+1) x us
def addL:Nat→Ex→Toks→Option (Ex×Toks)
 | 0,_,_=>none
 | f+1,x,ts=>if(tx ts==[43])=true then(match mult L E (adv ts)with
  | none=>none
  | some (y,us)=>addL f (.bin 276 x y) us)else if(tx ts==[45])=true then(match mult L E (adv ts)with
  | none=>none
  | some (y,us)=>addL f (.bin 275 x y) us)else some (x,ts)
def add(ts:Toks):Option (Ex×Toks):=match mult L E ts with
 | none=>none
 | some (x,us)=>addL L E (us.length+1) x us
def hasL:Nat→Ex→Ex→Toks→Option (Ex×Toks)
 | 0,_,_,_=>none
 | f+1,r,c,ts=>if(tx ts==[46])=true then(if(ty (adv ts)==1)=true then hasL f (.bin 262 r (.sop 193 c (hd (adv ts)).tx)) (.sop 194 c (hd (adv ts)).tx) (adv (adv ts))else none)else some (r,ts)
def has(lhs:Ex)(ts:Toks):Option (Ex×Toks) :=
 if(ty ts==1)=true then hasL (ts.length+1) (.sop 193 lhs (hd ts).tx) (.sop 194 lhs (hd ts).tx) (adv ts)
 else if(ty ts==4)=true then(match L.str (hd ts).tx with
  | none=>none
  | some s=>some (.sop 193 lhs s,adv ts))else none
def like(lhs:Ex)(ts:Toks):Option (Ex×Toks):=if(ty ts==4)=true then(match L.pat (hd ts).tx with
  | none=>none
  | some p=>some (.like lhs p,adv ts))else none
def is(lhs:Ex)(ts:Toks):Option (Ex×Toks):=match path ts with
 | none=>none
 | some (p,us)=>if(tx us==[105,110])=true then(match add L E (adv us)with
  | none=>none
  | some (x,vs)=>some (.isIn lhs p x,vs))else some (.sop 202 lhs p,us)
def QbM(s:List UInt8):Option Nat :=
 if(s==[60])=true then some 263 else if(s==[60,61])=true then some 264 else if(s==[62])=true then some 265 else if(s==[62,61])=true then some 266 else if(s==[33,61])=true then some 267 else if(s==[61,61])=true then some 268 else if(s==[105,110])=true then some 269 else none
def relation(ts:Toks):Option (Ex×Toks):=match add L E ts with
 | none=>none
 | some (x,us)=>if(tx us==[104,97,115])=true then has L x (adv us)else if(tx us==[108,105,107,101])=true then like L x (adv us)else if(tx us==[105,115])=true then is L E x (adv us)
  else match QbM (tx us)with
   | none=>some (x,us)
   | some op=>match add L E (adv us)with
    | none=>none
    | some (y,vs)=>some (.bin op x y,vs)
def andL:Nat→Ex→Toks→Option (Ex×Toks)
 | 0,_,_=>none
 | f+1,x,ts=>if(tx ts==[38,38])=true then(match relation L E (adv ts)with
  | none=>none
  | some (y,us)=>andL f (.bin 262 x y) us)else some (x,ts)
def and(ts:Toks):Option (Ex×Toks):=match relation L E ts with
 | none=>none
 | some (x,us)=>andL L E (us.length+1) x us
def orL:Nat→Ex→Toks→Option (Ex×Toks)
 | 0,_,_=>none
 | f+1,x,ts=>if(tx ts==[124,124])=true then(match and L E (adv ts)with
  | none=>none
  | some (y,us)=>orL f (.bin 260 x y) us)else some (x,ts)
def or(ts:Toks):Option (Ex×Toks):=match and L E ts with
 | none=>none
 | some (x,us)=>orL L E (us.length+1) x us
def QbH(ts:Toks):Option (Ex×Toks):=if(tx ts==[105,102])=true then(match E (adv ts)with
  | none=>none
  | some (x,us)=>match exact [116,104,101,110] us with
   | none=>none
   | some us=>match E us with
    | none=>none
    | some (y,us)=>match exact [101,108,115,101] us with
     | none=>none
     | some us=>match E us with
      | none=>none
      | some (z,us)=>some (.ite x y z,us))
 else or L E ts
end
def expr(L:Lex):Nat→Toks→Option (Ex×Toks)
 | 0,_=>none
 | f+1,ts=>QbH L (expr L f) ts
end Go.Proofs.Pg
