/- FnComma: a last comma changes nothing; for every world. Part 41. -/
import Derived.Test.YtmhjkkkhdlnngaaGreatDoorZ40
set_option linter.all false
set_option maxRecDepth 100000
set_option maxHeartbeats 40000000
namespace Go.Proofs.Pg
open Go.RowKit
theorem dg_app(n:Nat):∀s,dg n s=dg n []++s:=by
 induction n using Nat.strongRecOn with
 | ind n ih =>
  intro s;by_cases h:n=0
  ·subst h;rw[Qcv,Qcv];rfl
  ·rw[QdC s h,QdC [] h,ih (n / 10) (by omega) (_::s),ih (n / 10) (by omega) [_]]
   simp
theorem dg_num(n:Nat):∀s,(∀b∈s,QaZ (bI b)=true)→∀b∈dg n s,QaZ (bI b)=true:=by
 induction n using Nat.strongRecOn with
 | ind n ih =>
  intro s hs;by_cases h:n=0
  ·subst h;rw[Qcv];exact hs
  ·rw[QdC s h]
   refine ih (n / 10) (by omega) _ (fun b hb=>?_);rcases List.mem_cons.1 hb with rfl | hb
   ·have:(UInt8.ofNat (48+n%10)).toNat=48+n%10:=by rw[UInt8.toNat_ofNat'];omega
    simp[QaZ,bI,this];omega
   ·exact hs b hb
theorem dg_len:∀(k n:Nat)(s:List UInt8),n<10 ^ k→(dg n s).length≤s.length+k
 | 0,n,s,h=>by
  have:n=0:=by simpa using h
  subst this;rw[Qcv];omega
 | k+1,n,s,h=>by
  by_cases h0:n=0
  ·subst h0;rw[Qcv];omega
  ·rw[QdC s h0]
   have:=dg_len k (n / 10) (UInt8.ofNat (48+n%10)::s) (by rw[Nat.pow_succ]at h;omega);rw[List.length_cons]at this;omega
theorem QcY(n:Nat):∀b∈dig n,QaZ (bI b)=true:=by
 unfold dig;split
 ·decide
 ·exact dg_num n [] (by simp)
theorem dig_ne(n:Nat):dig n≠[]:=by
 unfold dig;split
 ·simp
 ·rename_i h
  rw[QdC [] h,dg_app];simp
theorem QdD{n:Nat}(h:n<4294967296):(dig n).length≤10:=by
 unfold dig;split
 ·simp
 ·have:=dg_len 10 n [] (by omega)
  simpa using this
theorem QfK(n:Nat):∃c xs,dig n=c::xs:=by
 cases h:dig n with
 | nil=>exact absurd h (dig_ne n)
 | cons c xs=>exact⟨c,xs,rfl⟩
theorem QdE{b:UInt8}(h:QaZ (bI b)=true):48≤b.toNat∧b.toNat≤57:=by simp[QaZ,bI]at h;omega
theorem pu_ok:∀(l:List UInt8)(a:Nat),(∀b∈l,QaZ (bI b)=true)→(a+1)*10 ^ l.length≤10 ^ 15→∃u,Lib.parseUintM (2 ^ 64-1) a l=.ok u∧u<10 ^ 15
 | [],a,_,h=>⟨a,rfl,by simp at h;omega⟩
 | c::l,a,hl,h=>by
  have hc:=QdE (hl c (by simp));rw[List.length_cons,Nat.pow_succ]at h;have hp:1≤10 ^ l.length:=Nat.pos_of_ne_zero (by simp);have h2:(a*10+(c.toNat-48)+1)*10 ^ l.length≤(a+1)*(10 ^ l.length*10):=by
   rw[Nat.mul_comm (10 ^ l.length) 10,←Nat.mul_assoc];exact Nat.mul_le_mul_right _ (by omega)
  have h3:a+1≤10 ^ 15:=Nat.le_trans (Nat.le_mul_of_pos_right _ (by omega)) h;rw[Lib.parseUintM,if_pos hc,if_neg (by omega),if_neg (by omega)];exact pu_ok l _ (fun b hb=>hl b (by simp[hb])) (by omega)
theorem int_dig{n:Nat}(h:n<4294967296):∃v,intM ⟨(dig n).toArray⟩=some v:=by
 have hl:=QdD h;have hn:=QcY n;obtain⟨c,xs,e⟩:=QfK n;have hc:=QdE (hn c (by rw[e];simp));obtain⟨u,h1,h2⟩:=pu_ok (dig n) 0 hn (by
  have:10 ^ (dig n).length≤10 ^ 10:=Nat.pow_le_pow_right (by decide) hl;omega)
 refine⟨u,?_⟩;unfold intM;show numM (Lib.parseIntB 64 (dig n))=_;rw[e]at h1 ⊢;unfold Lib.parseIntB;simp only;rw[if_neg (by omega)];unfold Lib.parseUintB;rw[if_neg (by simp),h1];simp only;rw[if_neg (by omega),if_neg (by omega),if_neg (by omega)];rfl
theorem nm_dig{n:Nat}(h:n<4294967296):∃v,Nm lx ⟨(dig n).toArray⟩ v:=by
 obtain⟨v,hv⟩:=int_dig h;have hn:=QcY n;have key:∀l:List UInt8,(∃b∈l,QaZ (bI b)=false)→dig n≠l:=by
  rintro l⟨b,hb,h0⟩rfl;rw[hn b hb]at h0;cases h0
 exact⟨v,hv,key _ ⟨105,by simp,rfl⟩,key _ ⟨45,by simp,rfl⟩,key _ ⟨33,by simp,rfl⟩,key _ ⟨93,by simp,rfl⟩⟩
theorem nrX_asc{l:List UInt8}{i:Nat}{c:UInt8}(h:l[i]? =some c)(hc:c.toNat<128):nrX l i=some (c.toNat,i+1):=by
 obtain⟨hi,rfl⟩:=List.getElem?_eq_some_iff.1 h;have hd:dec (l.drop i)=(l[i].toNat,1):=by
  rw[List.drop_eq_getElem_cons hi];exact Qh3 hc
 unfold nrX nrM;rw[if_pos hi,hd,if_neg (by simp only;omega)]
theorem enc_asc{c:UInt8}(hc:c.toNat<128):enc (c.toNat:Int)=[c]:=by
 unfold enc Lib.encodeRune;rw[Lib.encodeRuneZ_one (by omega) (by omega)];simp
theorem uq_asc(l:List UInt8)(hl:∀b∈l,b.toNat<128∧b≠92):∀(f i:Nat)(acc:List UInt8),i≤l.length→l.length-i<f→uqL false l f acc i=some (acc++l.drop i,l.length)
 | 0,_,_,_,h=>absurd h (Nat.not_lt_zero _)
 | f+1,i,acc,hi,hf=>by
  rw[uqL];by_cases h:i<l.length
  ·obtain⟨h1,h2⟩:=hl l[i] (List.getElem_mem h)
   rw[if_pos h,nrX_asc (List.getElem?_eq_getElem h) h1];simp only;rw[if_neg (by simp),if_neg (show ¬l[i].toNat=92 from fun e=>h2 (UInt8.toNat_inj.1 e)),enc_asc h1,uq_asc l hl f (i+1) _ (by omega) (by omega),List.drop_eq_getElem_cons h];simp
  ·rw[if_neg h,List.drop_eq_nil_of_le (by omega),List.append_nil,show i=l.length by omega]
theorem strM_asc(x:List UInt8)(hl:∀b∈x,b.toNat<128∧b≠92):strM ⟨(34::(x++[34])).toArray⟩=some ⟨x.toArray⟩:=by
 have ht:(Qdn ⟨(34::(x++[34])).toArray⟩).data.toList=x:=by
  have h1:Lib.trimPrefix (34::(x++[34])) [34]=x++[34]:=by
   unfold Lib.trimPrefix Lib.hasPrefix;simp
  have h2:Lib.trimSuffix (x++[34]) [34]=x:=by
   unfold Lib.trimSuffix Lib.hasSuffix;simp
  show(Lib.trimSuffix (Lib.trimPrefix (34::(x++[34])) [34]) [34])=x;rw[h1,h2]
 unfold strM uqM;rw[ht,uq_asc x hl _ 0 [] (Nat.zero_le _) (by omega)];rfl
def QcK(r:Bool)(i n:Nat):List UInt8:=(if i=0 then []else [44,32])++(if r=true then [34,107]++dig i++[34,58,32]else [])++dig n
def txtI(r:Bool):Nat→List Nat→List UInt8
 | _,[]=>[]
 | i,n::l=>QcK r i n++txtI r (i+1) l
theorem QeL(r:Bool):∀(l:List Nat)(i n:Nat),txtI r i (l++[n])=txtI r i l++QcK r (i+l.length) n
 | [],i,n=>by simp[txtI]
 | m::l,i,n=>by
  rw[List.cons_append,txtI,QeL r l (i+1) n,txtI];simp[Nat.add_assoc,Nat.add_comm 1]
def keyB(i:Nat):List UInt8:=107::dig i
def keyT(i:Nat):List UInt8:=34::(keyB i++[34])
def QdV(r:Bool)(i n:Nat):Kd:=(if i=0 then []else [cm])++(if r=true then [(4,⟨(keyT i).toArray⟩),(5,⟨#[58]⟩)]else [])++[(2,⟨(dig n).toArray⟩)]
def QcL(r:Bool):Nat→List Nat→Kd
 | _,[]=>[]
 | i,n::l=>QdV r i n++QcL r (i+1) l
theorem Qia(n:Nat):Asc (dig n):=fun b hb=>by have:=QdE (QcY n b hb);omega
theorem Asc.app{a b:List UInt8}(ha:Asc a)(hb:Asc b):Asc (a++b):=fun x hx=>(List.mem_append.1 hx).elim (ha x) (hb x)
theorem Qib(r:Bool)(i n:Nat):Asc (QcK r i n):=by
 unfold QcK;refine(Asc.app ?_ ?_).app (Qia n)
 ·split
  ·intro b hb;cases hb
  ·unfold Asc;decide
 ·split
  ·exact(Asc.app (by unfold Asc;decide) (Qia i)).app (by unfold Asc;decide)
  ·intro b hb;cases hb
theorem QfL(r:Bool):∀(l:List Nat)(i:Nat),Asc (txtI r i l)
 | [],i=>fun b hb=>by cases hb
 | n::l,i=>(Qib r i n).app (QfL r l (i+1))
def Brk(r:List UInt8):Prop:=∀d r',r=d::r'→QaZ (bI d)=false
theorem txtI_brk{r:Bool}{R:List UInt8}(hR:Brk R):∀(l:List Nat)(i:Nat),0<i→Brk (txtI r i l++R)
 | [],i,_=>hR
 | n::l,i,h=>by
  intro d r' e;rw[txtI,QcK,if_neg (by omega)]at e;cases e;rfl
theorem rd_piece{t R:List UInt8}{K:Kd}(hA:Asc t)(r:Bool)(i n:Nat)(h:Rd t R K)(hR:Brk R):Rd t (QcK r i n++R) (QdV r i n++K):=by
 have hnum:∀ws:List UInt8,(∀b∈ws,isWs (bI b)=true)→Rd t (ws++dig n++R) ((2,⟨(dig n).toArray⟩)::K):=by
  intro ws hw;obtain⟨c,xs,e⟩:=QfK n;have:=h.num (ws:=ws) (c:=c) (xs:=xs) hA hw (by rw[←e];exact QcY n) hR
  rwa [←e]at this
 have hkey:∀ws:List UInt8,(∀b∈ws,isWs (bI b)=true)→Rd t (ws++((if r=true then [34,107]++dig i++[34,58,32]else [])++dig n)++R) ((if r=true then [(4,⟨(keyT i).toArray⟩),(5,⟨#[58]⟩)]else [])++(2,⟨(dig n).toArray⟩)::K):=by
  intro ws hw;cases r with
  | false=>simpa using hnum ws hw
  | true =>
   have h1:=hnum [32] (by decide);have h2:=h1.op (ws:=[]) (c:=58) hA (by simp) (.inr ⟨rfl,by intro d r' e;cases e;decide⟩) (by decide);have h3:=h2.str (ws:=ws) (xs:=keyB i) hA hw (by
    intro b hb;rcases List.mem_cons.1 hb with rfl | hb
    ·rfl
    ·have:=QdE (QcY i b hb)
     simp[plain];refine⟨⟨?_,?_⟩,?_⟩<;>(rintro rfl;revert this;decide))
   simpa [keyT,keyB]using h3
 unfold QcK QdV;by_cases h0:i=0
 ·rw[if_pos h0,if_pos h0]
  simpa using hkey [] (by simp)
 ·rw[if_neg h0,if_neg h0]
  have:=(hkey [32] (by decide)).op (ws:=[]) (c:=44) hA (by simp) (.inl rfl) (by decide);simpa using this
theorem rd_txt{t R:List UInt8}{K:Kd}(hA:Asc t)(r:Bool)(h:Rd t R K)(hR:Brk R):∀(l:List Nat)(i:Nat),Rd t (txtI r i l++R) (QcL r i l++K)
 | [],i=>h
 | n::l,i=>by
  rw[txtI,QcL,List.append_assoc,List.append_assoc];exact rd_piece hA r i n (rd_txt hA r h hR l (i+1)) (txtI_brk hR l (i+1) (by omega))
def valD(l:List UInt8):Nat:=l.foldl (fun a b=>a*10+(b.toNat-48)) 0
theorem valD_dg(n:Nat):valD (dg n [])=n:=by
 induction n using Nat.strongRecOn with
 | ind n ih =>
  by_cases h:n=0
  ·subst h;rw[Qcv];rfl
  ·have h1:(UInt8.ofNat (48+n%10)).toNat=48+n%10:=by rw[UInt8.toNat_ofNat'];omega
   have h2:=ih (n / 10) (by omega);unfold valD at h2 ⊢;rw[QdC [] h,dg_app,List.foldl_append,h2];simp only[List.foldl_cons,List.foldl_nil,h1];omega
theorem QfM(n:Nat):valD (dig n)=n:=by
 unfold dig;split
 ·rename_i h;subst h;rfl
 ·exact valD_dg n
theorem dig_inj{m n:Nat}(h:dig m=dig n):m=n:=by rw[←QfM m,h,QfM]
def digB(n:Nat):ByteArray:=⟨(dig n).toArray⟩
theorem QcZ:∀(l:List Nat)(i:Nat),0<i→QcL false i l=Qeh (l.map digB)
 | [],_,_=>rfl
 | n::l,i,h=>by
  rw[QcL,QcZ l (i+1) (by omega),QdV,if_neg (by omega)];rfl
def QbP:Nat→List Nat→List Int→List En
 | i,n::l,v::vs=>⟨⟨(keyT i).toArray⟩,⟨(keyB i).toArray⟩,digB n,v⟩::QbP (i+1) l vs
 | _,_,_=>[]
theorem QdW:∀(l:List Nat)(vs:List Int)(i:Nat),l.length=vs.length→0<i→QcL true i l=Qei (QbP i l vs)
 | [],[],_,_,_=>rfl
 | n::l,v::vs,i,hl,h=>by
  rw[QcL,QdW l vs (i+1) (by simpa using hl) (by omega),QdV,if_neg (by omega)];rfl
theorem QdF:∀(l:List Nat)(vs:List Int)(i:Nat),(QbP i l vs).length≤l.length
 | [],_,_=>by simp[QbP]
 | n::l,[],_=>by simp[QbP]
 | n::l,v::vs,i=>by have:=QdF l vs (i+1);simp[QbP];omega
theorem QfN:∀(l:List Nat)(vs:List Int)(i:Nat),∀e∈QbP i l vs,∃j,i≤j∧e.k=⟨(keyB j).toArray⟩
 | [],_,_=>by simp[QbP]
 | n::l,[],_=>by simp[QbP]
 | n::l,v::vs,i=>by
  intro e he;rcases List.mem_cons.1 he with rfl | he
  ·exact⟨i,Nat.le_refl _,rfl⟩
  ·obtain⟨j,h1,h2⟩:=QfN l vs (i+1) e he
   exact⟨j,by omega,h2⟩
theorem QfO(i:Nat):(⟨(keyB i).toArray⟩:ByteArray).toList=keyB i:=ByteArray.toList_eq _
theorem QfP:∀(l:List Nat)(vs:List Int)(i:Nat),((QbP i l vs).map fun e=>e.k.toList).Nodup
 | [],_,_=>by simp[QbP]
 | n::l,[],_=>by simp[QbP]
 | n::l,v::vs,i=>by
  rw[QbP,List.map_cons,List.nodup_cons];refine⟨fun h=>?_,QfP l vs (i+1)⟩;obtain⟨e,h1,h2⟩:=List.mem_map.1 h;obtain⟨j,h3,h4⟩:=QfN l vs (i+1) e h1;rw[h4,QfO,QfO]at h2;have:=dig_inj (List.cons.inj h2).2;omega
theorem QfR:∀(l:List Nat)(vs:List Int)(i:Nat),Nms lx (l.map digB) vs→∀e∈QbP i l vs,EnOk lx e
 | [],_,_,_=>by simp[QbP]
 | n::l,[],_,_=>by simp[QbP]
 | n::l,v::vs,i,h=>by
  cases h with
  | cons h1 h2 =>
   intro e he;rcases List.mem_cons.1 he with rfl | he
   ·refine⟨?_,?_,h1⟩
    ·exact strM_asc (keyB i) (fun b hb=>by
      rcases List.mem_cons.1 hb with rfl | hb
      ·decide
      ·have:=QdE (QcY i b hb)
       refine⟨by omega,?_⟩;rintro rfl;revert this;decide)
    ·show keyT i≠[125]
     unfold keyT;intro e;cases e
   ·exact QfR l vs (i+1) h2 e he
theorem Qic:∀(l:List Nat),(∀n∈l,n<4294967296)→∃vs,Nms lx (l.map digB) vs
 | [],_=>⟨[],.nil⟩
 | n::l,h=>by
  obtain⟨v,hv⟩:=nm_dig (h n (by simp));obtain⟨vs,hvs⟩:=Qic l (fun m hm=>h m (by simp[hm]));exact⟨v::vs,.cons hv hvs⟩
def QdI(k:Nat):List UInt8:=if k=0 then [91]else if k=1 then [123]else [91,93,46,99,111,110,116,97,105,110,115,65,108,108,40,91]
def endT(k:Nat):List UInt8:=if k=0 then [93]else if k=1 then [125]else [93,41]
def Qci(k:Nat)(tr:Bool)(ns:List Nat):List UInt8:=QdI k++(txtI (k==1) 0 ns++((if tr=true then [44]else [])++endT k))
def Qid:List UInt8:=[112,101,114,109,105,116,32,40,112,114,105,110,99,105,112,97,108,44,32,97,99,116,105,111,110,44,32,114,101,115,111,117,114,99,101,41,32,119,104,101,110,32,123]
abbrev kindI(b:ByteArray):Int:=if Qdv b then 3 else 1
theorem rd_head{t R:List UInt8}{K:Kd}(hA:Asc t)(h:Rd t R K):Rd t (Qid++R) (headK (kindI ⟨#[112,101,114,109,105,116]⟩) (kindI ⟨#[112,114,105,110,99,105,112,97,108]⟩) (kindI ⟨#[97,99,116,105,111,110]⟩) (kindI ⟨#[114,101,115,111,117,114,99,101]⟩) (kindI ⟨#[119,104,101,110]⟩)++K):=by
 have h1:=h.op (ws:=[32]) (c:=123) hA (by decide) (.inl rfl) (by decide);have h2:=h1.id (ws:=[32]) (c:=119) (xs:=[104,101,110]) hA (by decide) (by decide) (by decide) (by decide) (by intro d r' e;cases e;rfl);have h3:=h2.op (ws:=[]) (c:=41) hA (by simp) (.inl rfl) (by decide);have h4:=h3.id (ws:=[32]) (c:=114) (xs:=[101,115,111,117,114,99,101]) hA (by decide) (by decide) (by decide) (by decide) (by intro d r' e;cases e;rfl)
 have h5:=h4.op (ws:=[]) (c:=44) hA (by simp) (.inl rfl) (by decide);have h6:=h5.id (ws:=[32]) (c:=97) (xs:=[99,116,105,111,110]) hA (by decide) (by decide) (by decide) (by decide) (by intro d r' e;cases e;rfl);have h7:=h6.op (ws:=[]) (c:=44) hA (by simp) (.inl rfl) (by decide);have h8:=h7.id (ws:=[]) (c:=112) (xs:=[114,105,110,99,105,112,97,108]) hA (by simp) (by decide) (by decide) (by decide) (by intro d r' e;cases e;rfl)
 have h9:=h8.op (ws:=[32]) (c:=40) hA (by decide) (.inl rfl) (by decide);exact h9.id (ws:=[]) (c:=112) (xs:=[101,114,109,105,116]) hA (by simp) (by decide) (by decide) (by decide) (by intro d r' e;cases e;rfl)
abbrev endK2:Kd:=[(5,⟨#[125]⟩),(5,⟨#[59]⟩)]
def Qie(k:Nat):Kd:=if k=0 then [(5,⟨#[91]⟩)]else if k=1 then [(5,⟨#[123]⟩)]else [(5,⟨#[91]⟩),(5,⟨#[93]⟩),(5,⟨#[46]⟩),(1,⟨#[99,111,110,116,97,105,110,115,65,108,108]⟩),(5,⟨#[40]⟩),(5,⟨#[91]⟩)]
def endK(k:Nat):Kd:=if k=0 then [(5,⟨#[93]⟩)]else if k=1 then [(5,⟨#[125]⟩)]else [(5,⟨#[93]⟩),(5,⟨#[41]⟩)]
theorem rd_body{t:List UInt8}(hA:Asc t)(k:Nat)(tr:Bool)(ns:List Nat):Rd t (Qci k tr ns++[125,59]) (Qie k++(QcL (k==1) 0 ns++((if tr=true then [cm]else [])++(endK k++endK2)))):=by
 have h1:=(Rd.nil (t:=t) (ws:=[]) hA (by simp)).op (ws:=[]) (c:=59) hA (by simp) (.inl rfl) (by decide);have h2:Rd t [125,59] endK2:=h1.op (ws:=[]) (c:=125) hA (by simp) (.inl rfl) (by decide);have h3:Rd t (endT k++[125,59]) (endK k++endK2):=by
  unfold endT endK;split
  ·exact h2.op (ws:=[]) (c:=93) hA (by simp) (.inl rfl) (by decide)
  ·split
   ·exact h2.op (ws:=[]) (c:=125) hA (by simp) (.inl rfl) (by decide)
   ·exact(h2.op (ws:=[]) (c:=41) hA (by simp) (.inl rfl) (by decide)).op (ws:=[]) (c:=93) hA (by simp) (.inl rfl) (by decide)
 have hb3:Brk (endT k++[125,59]):=by
  intro d r' e;unfold endT at e;split at e
  ·cases e;rfl
  ·split at e<;>(cases e;rfl)
 have h4:Rd t ((if tr=true then [44]else [])++(endT k++[125,59])) ((if tr=true then [cm]else [])++(endK k++endK2))∧Brk ((if tr=true then [44]else [])++(endT k++[125,59])):=by
  cases tr with
  | false=>exact⟨h3,hb3⟩
  | true=>exact⟨h3.op (ws:=[]) (c:=44) hA (by simp) (.inl rfl) (by decide),by intro d r' e;cases e;rfl⟩
 have h5:=rd_txt hA (k==1) h4.1 h4.2 ns 0;have h6:Rd t (QdI k++(txtI (k==1) 0 ns++((if tr=true then [44]else [])++(endT k++[125,59])))) (Qie k++(QcL (k==1) 0 ns++((if tr=true then [cm]else [])++(endK k++endK2)))):=by
  unfold QdI Qie;split
  ·exact h5.op (ws:=[]) (c:=91) hA (by simp) (.inl rfl) (by decide)
  ·split
   ·exact h5.op (ws:=[]) (c:=123) hA (by simp) (.inl rfl) (by decide)
   ·have g1:=h5.op (ws:=[]) (c:=91) hA (by simp) (.inl rfl) (by decide)
    have g2:=g1.op (ws:=[]) (c:=40) hA (by simp) (.inl rfl) (by decide);have g3:=g2.id (ws:=[]) (c:=99) (xs:=[111,110,116,97,105,110,115,65,108,108]) hA (by simp) (by decide) (by decide) (by decide) (by intro d r' e;cases e;rfl);have hr:Qdv ⟨#[99,111,110,116,97,105,110,115,65,108,108]⟩=false:=by rfl
    have g4:=g3.op (ws:=[]) (c:=46) hA (by simp) (.inl rfl) (by decide);have g5:=g4.op (ws:=[]) (c:=93) hA (by simp) (.inl rfl) (by decide);have g6:=g5.op (ws:=[]) (c:=91) hA (by simp) (.inl rfl) (by decide);rw[show(if Qdv ⟨[99,111,110,116,97,105,110,115,65,108,108].toArray⟩=true then(3:Int)else 1)=1 from rfl]at g6;exact g6
 simpa [Qci]using h6
end Go.Proofs.Pg
namespace Go.Proofs.Pg
open Go.RowKit
attribute [local go_sem] Oper.semAt_some
def SsRel(w0:World)(n:Nat)(v5:Value)(wr:World):Prop:=∃i,v5=.int .i64 ((i:Nat):Int)∧i≤n∧Below w0.heap.size w0 wr
def StRow(w:World)(p:Option Addr)(ks:List ByteArray):Prop:=∀i s,ks[i]? =some s→∃b off,p=some ⟨b,off,none⟩∧b<w.heap.size∧w.cell? ⟨b,off+i,none⟩=some (.string s)
theorem RwU.strings{w:World}{U:Nat→Prop}{p:Option Addr}{ks:List ByteArray}(h:RwU w U 9 1 p ks.length (ks.map .string)):StRow w p ks:=by
 intro i s hi;have hl:i<ks.length:=(List.getElem?_eq_some_iff.1 hi).1;obtain⟨b,off,c,fr,rfl,_,hb,hc⟩:=h.2.resolve_left (by omega);refine⟨b,off,rfl,Qad hb,Qaa hb ?_⟩;rw[hc i (by omega),List.getElem?_map,hi];rfl
theorem ss_c(ks:List ByteArray)(hn:ks.length≤1000000)(w:World)(p1 p2:Option Addr)(c1 c2:Nat)(h1:StRow w p1 ks)(h2:StRow w p2 ks) :
  Calls Tryz.prog 33 #[.slice p1 ks.length c1,.slice p2 ks.length c2] w (fun e w'=>e=.returned (.bool true)∧Below w.heap.size w w'):=by
 have H1:=Hi h1;clear h1;have H2:=Hi h2;clear h2;go_enter Tryz.func33,Tryz.ntmps33
 go_upto_region 4 with(fail)
 have HQ:Hid (SsRel w ks.length (.int .i64 0) w):=Hi ⟨0,rfl,Nat.zero_le _,.refl _ _⟩
 go_loopw [5] (fun v5 wr=>SsRel w ks.length v5 wr) (fun v5 _=>ks.length-(intOf v5).toNat)
 case atStart=>exact HQ.out
 case round =>
  clear HQ;obtain⟨i,rfl,hi,hB⟩:=hrel;by_cases hlt:i<ks.length
  ·obtain⟨s,hs⟩:∃s,ks[i]? =some s:=⟨ks[i],by simp[hlt]⟩
   obtain⟨b1,o1,rfl,hb1,q1⟩:=H1.out i s hs;obtain⟨b2,o2,rfl,hb2,q2⟩:=H2.out i s hs;have r1:wr.cell? ⟨b1,o1+i,none⟩=some (.string s):=(Ext.below (S:=fun _=>False) hB).cell (fun h=>h) q1;have r2:wr.cell? ⟨b2,o2+i,none⟩=some (.string s):=(Ext.below (S:=fun _=>False) hB).cell (fun h=>h) q2;clear q1 q2 hb1 hb2 hs;have HB:=Hi hB;clear hB
   go_upto_region 6 with(fail)
   go_region
   go_wp2_with fail
   go_roundw
   case rel=>exact⟨i+1,by go_num,by omega,((Ext.below (S:=fun _=>False) HB.out).drew).toBelow (fun _ h=>h.elim) (Nat.le_refl _)⟩
   case measure=>simp[intOf];omega
  ·obtain rfl:i=ks.length:=by omega
   go_wp2_with fail
   go_ret;exact⟨rfl,hB⟩
inductive PxOk:PEx→Prop
 | mk (op:Int)(s:ByteArray)(v:PV)(keys pieces:List ByteArray)(l:List PEx)(hk:keys.length≤999999)(hp:pieces.length≤999999)(hl:l.length≤999999)(hop:op≠15)(h:∀a∈l,PxOk a):PxOk (.mk op s v keys pieces l)
theorem named_c(n:Int)(w:World):Calls Tryz.prog 31 #[.int .i64 n] w (fun e w'=>Below w.heap.size w w'∧∃b,e=.returned (.bool b)∧(n=1∨n=30→b=false)):=by
 go_enter Tryz.func31,Tryz.ntmps31;by_cases h1:n=2
 ·subst h1
  go_wp2_with fail
  go_ret;exact⟨.refl _ _,true,rfl,by omega⟩
 by_cases h2:n=13
 ·subst h2
  go_wp2_with fail
  go_ret;exact⟨.refl _ _,true,rfl,by omega⟩
 by_cases h3:n=16
 ·subst h3
  go_wp2_with fail
  go_ret;exact⟨.refl _ _,true,rfl,by omega⟩
 by_cases h4:n=17
 ·subst h4
  go_wp2_with fail
  go_ret;exact⟨.refl _ _,true,rfl,by omega⟩
 by_cases h5:n=23
 ·subst h5
  go_wp2_with fail
  go_ret;exact⟨.refl _ _,true,rfl,by omega⟩
 by_cases h6:n=25
 ·subst h6
  go_wp2_with fail
  go_ret;exact⟨.refl _ _,true,rfl,by omega⟩
 go_wp2_with fail
 go_ret;exact⟨.refl _ _,false,rfl,fun _=>rfl⟩
def SvRl(w0:World)(A B:Nat)(v5:Value)(wr:World):Prop:=v5=.int .i64 0∧Below w0.heap.size w0 wr∧wr.cell? ⟨A,5,none⟩=some (.slice none 0 0)∧wr.cell? ⟨B,5,none⟩=some (.slice none 0 0)
theorem sv_c(kd nn:Int)(vs vt:ByteArray)(w:World):Calls Tryz.prog 32 #[.agg #[.int .i64 kd,.int .i64 nn,.string vs,.string vt,.slice none 0 0,.slice none 0 0],.agg #[.int .i64 kd,.int .i64 nn,.string vs,.string vt,.slice none 0 0,.slice none 0 0]] w (fun e w'=>e=.returned (.bool true)∧Below w.heap.size w w'):=by
 go_enter Tryz.func32,Tryz.ntmps32
 go_upto_region 1 with(fail)
 refine QaB fun w1 hw1=>?_
 have B1:Below w.heap.size w w1:=by rw[hw1];exact(Qab w _).alloc (by simp) _
 have hA:w1.heap[w.heap.size]? =some (.cells #[.int .i64 kd,.int .i64 nn,.string vs,.string vt,.slice none 0 0,.slice none 0 0] 30 (0,0)):=by rw[hw1];exact Qaf (heap_alloc_new w _) _
 have hB:w1.heap[w.heap.size+1]? =some (.cells #[.int .i64 kd,.int .i64 nn,.string vs,.string vt,.slice none 0 0,.slice none 0 0] 30 (0,0)):=by rw[hw1];exact Qah (by simp) _
 clear hw1;have HB1:=Hi B1;clear B1;obtain⟨a0,a1,a2,a3,a4,a5⟩:=Cl6 hA rfl rfl rfl rfl rfl rfl;obtain⟨b0,b1,b2,b3,b4,b5⟩:=Cl6 hB rfl rfl rfl rfl rfl rfl;clear hA hB;by_cases h3:kd=3
 ·subst h3
  go_wp2_with fail
  go_ret;exact⟨rfl,HB1.out⟩
 by_cases h4:kd=4
 ·subst h4
  go_wp2_with fail
  go_ret;exact⟨rfl,HB1.out⟩
 have HLOOP:∀w2,Below w1.heap.size w1 w2→Hid (SvRl w2 w.heap.size (w.heap.size+1) (.int .i64 0) w2∧Below w.heap.size w w2):=fun w2 h=>Hi ⟨⟨rfl,.refl _ _,(Ext.below (S:=fun _=>False) h).cell (fun h=>h) a5,(Ext.below (S:=fun _=>False) h).cell (fun h=>h) b5⟩,HB1.out.trans (h.mono HB1.out.size)⟩
 have HL:=Hi HLOOP;clear HLOOP;by_cases h6:kd=6
 ·subst h6
  go_wp2_with fail
  refine(ss_c [] (by simp) w1 none none 0 0 (fun i s h=>by simp at h) (fun i s h=>by simp at h)).mono ?_;rintro e w2⟨rfl,B2⟩;have HQ:=HL.out w2 B2;clear B2 a0 a1 a2 a3 a4 a5 b0 b1 b2 b3 b4 b5 h3 h4
  go_wp2_with fail
  go_loopw [5] (fun v5 wr=>SvRl w2 w.heap.size (w.heap.size+1) v5 wr) (fun _ _=>0)
  case atStart=>exact HQ.out.1
  case round =>
   obtain⟨rfl,hB,q1,q2⟩:=hrel;have HB:=Hi hB;clear hB
   go_wp2_with fail
   go_ret;exact⟨rfl,HQ.out.2.trans (HB.out.mono HQ.out.2.size)⟩
 by_cases h5:kd=5
 ·subst h5
  have HQ:=HL.out w1 (.refl _ _)
  go_upto_region 13 with(fail)
  go_loopw [5] (fun v5 wr=>SvRl w1 w.heap.size (w.heap.size+1) v5 wr) (fun _ _=>0)
  case atStart=>exact HQ.out.1
  case round =>
   clear a0 a1 a2 a3 a4 a5 b0 b1 b2 b3 b4 b5 h3 h4 h6;obtain⟨rfl,hB,q1,q2⟩:=hrel;have HB:=Hi hB;clear hB
   go_wp2_with fail
   go_ret;exact⟨rfl,HQ.out.2.trans (HB.out.mono HQ.out.2.size)⟩
 go_wp2_with fail
 go_ret;exact⟨rfl,HB1.out⟩
end Go.Proofs.Pg
namespace Go.Proofs.Pg
open Go.RowKit
theorem Qif{L:Lex}:∀{l:List ByteArray}{vs:List Int},Nms L l vs→l.length=vs.length
 | _,_,.nil=>rfl
 | _,_,.cons _ h=>by rw[List.length_cons,List.length_cons,Qif h]
theorem QeM:∀l:List ByteArray,(Qeh l).length=2*l.length
 | []=>rfl
 | b::l=>by
  have:=QeM l;unfold Qeh at this ⊢;rw[List.flatMap_cons,List.length_append,this];simp;omega
theorem QeN:∀l:List En,(Qei l).length=4*l.length
 | []=>rfl
 | b::l=>by
  have:=QeN l;unfold Qei at this ⊢;rw[List.flatMap_cons,List.length_append,this];simp[enK];omega
theorem QfS{m:Nat}(tr:Bool)(K:Kd)(l:List Nat)(n:Nat)(v:Int)(vs:List Int)(us:Toks)(h:Hk us ((5,⟨#[91]⟩)::(2,digB n)::(Qeh (l.map digB)++((if tr=true then [cm]else [])++(5,⟨#[93]⟩)::K))))(hn:Nm lx (digB n) v)(hl:Nms lx (l.map digB) vs) :
  ∃ws,primary lx (expr lx (m+1)) us=some (.set ((v::vs).map fun n=>.val (.long n)),ws)∧Hk ws K:=by
 obtain⟨us2,e1,e2⟩:=nums_e (L:=lx) (m:=m) (c:=⟨#[93]⟩) rfl tr K (l.map digB) (digB n) v vs ((adv us).length+1) [] (adv us) h.get.2.2.2.1 hn hl (by
  have h1:=h.get.2.2.2.1.len;have h2:=QeM (l.map digB);simp at h1 h2 ⊢;omega)
 exact⟨adv us2,Qf6 h (by unfold Qbr;rw[e1];rfl),e2.get.2.2.2.1⟩
theorem Qig(l:List Int)(hl:l.length≤999999):PxOk (toP (.set (l.map fun n=>.val (.long n)))):=by
 rw[toP,Qej];refine .mk _ _ _ _ _ _ (by simp) (by simp) (by simpa using hl) (by decide) (fun a ha=>?_);simp only[List.map_map,List.mem_map]at ha;obtain⟨n,_,rfl⟩:=ha;exact .mk _ _ _ _ _ _ (by simp) (by simp) (by simp) (by decide) (by simp)
theorem Qih(k:Nat)(hk:k<3)(m n:Nat)(l:List Nat)(v:Int)(vs:List Int)(hn:Nm lx (digB n) v)(hl:Nms lx (l.map digB) vs)(h20:l.length<20) :
  ∃x,PxOk (toP x)∧∀(m:Nat)(tr:Bool)(us:Toks),Hk us (Qie k++(QcL (k==1) 0 (n::l)++((if tr=true then [cm]else [])++(endK k++endK2))))→∃ws,expr lx (m+3) us=some (x,ws)∧Hk ws endK2:=by
 have hvs:=Qif hl;rw[List.length_map]at hvs
 match k,hk with
 | 0,_ =>
  refine⟨_,Qig (v::vs) (by simp;omega),fun m tr us h=>?_⟩;rw[show((0:Nat)==1)=false from rfl,QcL,QcZ l 1 (by omega)]at h;have h':Hk us ((5,⟨#[91]⟩)::(2,digB n)::(Qeh (l.map digB)++((if tr=true then [cm]else [])++(5,⟨#[93]⟩)::endK2))):=h;obtain⟨ws,e1,e2⟩:=QfS (m:=m+1) tr endK2 l n v vs us h' hn hl;have ht:=h'.get.2.1;refine⟨ws,?_,e2⟩;rw[expr];exact Qd2 (by rw[ht];decide) (by rw[ht];decide) (by rw[ht];decide) (Qdk e1 (by rw[e2.get.2.1];decide)) (by rw[e2.get.2.1];decide)
 | 1,_ =>
  refine⟨.recd ((QbP 0 (n::l) (v::vs)).map fun e=>(e.k,.val (.long e.n))),?_,fun m tr us h=>?_⟩
  ·have hle:=QdF (n::l) (v::vs) 0
   rw[toP,QfA];refine .mk _ _ _ _ _ _ (by simp at hle ⊢;omega) (by simp) (by simp at hle ⊢;omega) (by decide) (fun a ha=>?_);simp only[List.map_map,List.mem_map]at ha;obtain⟨e,_,rfl⟩:=ha;exact .mk _ _ _ _ _ _ (by simp) (by simp) (by simp) (by decide) (by simp)
  ·rw[show((1:Nat)==1)=true from rfl,QcL,QdW l vs 1 hvs (by omega)]at h
   have hen:=QfR (n::l) (v::vs) 0 (.cons hn hl);have hnd:=QfP (n::l) (v::vs) 0;have hle:=QdF l vs 1;rw[QbP]at hen hnd ⊢;obtain⟨e0,he0⟩:∃e:En,(⟨⟨(keyT 0).toArray⟩,⟨(keyB 0).toArray⟩,digB n,v⟩:En)=e:=⟨_,rfl⟩
   have hK:QdV true 0 n=enK e0:=by rw[←he0];rfl
   rw[hK]at h;rw[he0]at hen hnd ⊢;have h':Hk us ((5,⟨#[123]⟩)::(enK e0++(Qei (QbP 1 l vs)++((if tr=true then [cm]else [])++(5,⟨#[125]⟩)::endK2)))):=by
    have h9:=h;rw[List.append_assoc]at h9;exact h9
   have hlen:=h'.get.2.2.2.1.len;obtain⟨ws,e1,e2⟩:=recs_e (L:=lx) (m:=m+1) (c:=⟨#[125]⟩) rfl tr endK2 (QbP 1 l vs) e0 ((adv us).length+1) [] (adv us) h'.get.2.2.2.1 (hen _ (by simp)) (fun e he=>hen e (by simp[he])) (by simpa using hnd) (by
    have h2:=QeN (QbP 1 l vs);simp[enK]at hlen h2 ⊢;omega)
   have ht:=h'.get.2.1;refine⟨ws,?_,e2⟩;rw[expr];exact Qd2 (by rw[ht];decide) (by rw[ht];decide) (by rw[ht];decide) (Qdk (prim_rec h' (by unfold recd;rw[e1];rfl)) (by rw[e2.get.2.1];decide)) (by rw[e2.get.2.1];decide)
 | 2,_ =>
  refine⟨.bin 279 (.set []) (.set ((v::vs).map fun n=>.val (.long n))),?_,fun m tr us h=>?_⟩
  ·rw[toP]
   refine .mk _ _ _ _ _ _ (by simp) (by simp) (by simp) (by decide) (fun a ha=>?_);rcases List.mem_cons.1 ha with rfl | ha
   ·exact Qig [] (by simp)
   ·rw[List.mem_singleton.1 ha]
    exact Qig (v::vs) (by simp;omega)
  ·rw[show((2:Nat)==1)=false from rfl,QcL,QcZ l 1 (by omega)]at h
   have k1:Hk us ((5,⟨#[91]⟩)::(5,⟨#[93]⟩)::(5,⟨#[46]⟩)::(1,⟨#[99,111,110,116,97,105,110,115,65,108,108]⟩)::(5,⟨#[40]⟩)::(5,⟨#[91]⟩)::(2,digB n)::(Qeh (l.map digB)++((if tr=true then [cm]else [])++(5,⟨#[93]⟩)::(5,⟨#[41]⟩)::endK2))):=h;have k2:=k1.get.2.2.2.1;have k3:=k2.get.2.2.2.1;have k4:=k3.get.2.2.2.1;have k5:=k4.get.2.2.2.1;have k6:=k5.get.2.2.2.1;obtain⟨ws,e1,e2⟩:=QfS (m:=m) tr ((5,⟨#[41]⟩)::endK2) l n v vs _ k6 hn hl
   have ht6:=k6.get.2.1;have eE:expr lx (m+2) (adv (adv (adv (adv (adv us)))))=some (.set ((v::vs).map fun n=>.val (.long n)),ws):=by
    rw[expr];exact Qd2 (by rw[ht6];decide) (by rw[ht6];decide) (by rw[ht6];decide) (Qdk e1 (by rw[e2.get.2.1];decide)) (by rw[e2.get.2.1];decide)
   have eL:Qbr (expr lx (m+2)) [41] (adv (adv (adv (adv (adv us)))))=some ([.set ((v::vs).map fun n=>.val (.long n))],ws):=by
    unfold Qbr;rw[QaE,if_neg (by rw[ht6];decide),eE];simp only;rw[if_neg (by rw[e2.get.2.1];decide),if_pos (by rw[e2.get.2.1];decide)];rfl
   have e3:=e2.get.2.2.2.1;have eP:primary lx (expr lx (m+2)) us=some (.set [],adv (adv us)):=Qf6 k1 (by
    unfold Qbr;rw[QaE,if_pos (by rw[k2.get.2.1];decide)])
   have eA:access lx (expr lx (m+2)) (.set []) (adv (adv us))=some (some (.bin 279 (.set []) (.set ((v::vs).map fun n=>.val (.long n))),adv ws)):=by
    unfold access;rw[if_pos (by rw[k3.get.2.1];decide),if_pos (by rw[k4.get.1];decide),if_pos (by rw[k5.get.2.1];decide),eL];simp only;rw[k4.get.2.2.1];have hm:method lx ⟨#[99,111,110,116,97,105,110,115,65,108,108]⟩ (.set []) [.set ((v::vs).map fun n=>.val (.long n))]=some (.bin 279 (.set []) (.set ((v::vs).map fun n=>.val (.long n)))):=by
     unfold method;rw[ByteArray.toList_eq,if_neg (by decide),if_pos (by decide)];rfl
    rw[hm]
   have eM:member lx (expr lx (m+2)) us=some (.bin 279 (.set []) (.set ((v::vs).map fun n=>.val (.long n))),adv ws):=by
    unfold member;rw[eP];simp only;have hl3:=k3.len;obtain⟨g,hg⟩:∃g,(adv (adv us)).length=g+1:=⟨_,hl3⟩
    rw[memL,eA];simp only;rw[hg,memL];unfold access;rw[if_neg (by rw[e3.get.2.1];decide),if_neg (by rw[e3.get.2.1];decide)]
   have ht:=k1.get.2.1;refine⟨adv ws,?_,e3⟩;rw[expr];exact Qd2 (by rw[ht];decide) (by rw[ht];decide) (by rw[ht];decide) eM (by rw[e3.get.2.1];decide)
theorem Qii(k:Nat)(tr:Bool)(ns:List Nat):Asc (Qci k tr ns):=by
 unfold Qci;refine Asc.app ?_ ((QfL _ _ _).app (Asc.app ?_ ?_))
 ·unfold QdI
  repeat' split
  all_goals(unfold Asc;decide)
 ·split<;>(unfold Asc;decide)
 ·unfold endT
  repeat' split
  all_goals(unfold Asc;decide)
theorem Qfr(l:List UInt8):(QdB ⟨l.toArray⟩).data.toList=Qid++(l++[125,59]):=by
 unfold QdB;simp[ByteArray.data_append,Qid]
theorem Qij(k:Nat)(hk:k<3)(ns:List Nat)(h0:ns≠[])(h20:ns.length≤20)(hb:∀n∈ns,n<4294967296) :
  ∃x:PEx,PxOk x∧∀tr:Bool,∃P us b,QcD lx (QdB ⟨(Qci k tr ns).toArray⟩).data.toList=some (P,us)∧(Qb1 P).conds=[(b,x)]:=by
 cases ns with
 | nil=>exact absurd rfl h0
 | cons n l =>
  obtain⟨v,hv⟩:=nm_dig (hb n (by simp));obtain⟨vs,hvs⟩:=Qic l (fun m hm=>hb m (by simp[hm]));obtain⟨x,hok,hx⟩:=Qih k hk 0 n l v vs hv hvs (by simp at h20;omega);refine⟨toP x,hok,fun tr=>?_⟩;rw[Qfr];have hA:Asc (Qid++(Qci k tr (n::l)++[125,59])):=Asc.app (by unfold Asc Qid;decide) ((Qii k tr _).app (by unfold Asc;decide));obtain⟨ts,e1,e2⟩:=Rd.all hA (rd_head hA (rd_body hA k tr (n::l)));have hK:Hk ts (headK (kindI ⟨#[112,101,114,109,105,116]⟩) (kindI ⟨#[112,114,105,110,99,105,112,97,108]⟩) (kindI ⟨#[97,99,116,105,111,110]⟩) (kindI ⟨#[114,101,115,111,117,114,99,101]⟩) (kindI ⟨#[119,104,101,110]⟩)++((Qie k++(QcL (k==1) 0 (n::l)++((if tr=true then [cm]else [])++endK k)))++endK2)):=by
   unfold Hk;rw[e2];simp only[List.append_assoc]
  have hlen:=hK.len;obtain⟨m,hm⟩:∃m,ts.length=m+3:=⟨ts.length-3,by simp at hlen;omega⟩
  obtain⟨P,us,p1,p2⟩:=policy_k (L:=lx) (E:=expr lx (m+3)) hK (fun us hus=>by
   obtain⟨ws,w1,w2⟩:=hx m tr us (by unfold Hk at hus ⊢;rw[hus];simp only[List.append_assoc]);exact⟨ws,w1,w2⟩)
  refine⟨P,us,false,?_,?_⟩
  ·unfold QcD
   rw[e1];simp only[Option.bind_some];rw[hm];exact p1
  ·unfold Qb1
   rw[p2];rfl
section
variable {P:Program}{ops:Array Oper}{Q:Exit→Act→World→Prop}
structure OKg(ops:Array Oper)(n:Nat):Prop where
 nodup:(Qbi ops).Nodup
 small:∀d∈Qbi ops,d<n
 edges:∀i o,ops[i]? =some o→∀e∈o.after.toList,Region.binds .any e=true→e.on<i
theorem Facts.stepG{a0:Act}{w0:World}{E:World→World→Prop}{Φ:Nat→Value→World→Prop}(hok:OKg ops a0.tmps.size)(hT:∀a b c,E a b→E b c→E a c)
  (hΦ:∀j v w w',E w w'→Φ j v w→Φ j v w'){listed:Array Bool}{a:Act}{w w':World}(h:Facts ops a0 w0 E Φ listed a w){i:Nat}{o:Oper}(hi:ops[i]? =some o)(hni:listed.getD i true=false)
  (hE:E w w')(v:Value)(hv:Φ i (match o.dst with | some _=>v | none=>undef) w'):Facts ops a0 w0 E Φ (listed.setIfInBounds i true) (a.put o.dst v) w':=by
 have hilt:i<listed.size:=by
  rcases Nat.lt_or_ge i listed.size with h | h
  ·exact h
  ·simp[Array.getD,Nat.not_lt.2 h]at hni
 have hmem:∀d,o.dst=some d→d∈Qbi ops:=fun d hd=>List.mem_filterMap.2 ⟨o,List.mem_of_getElem? (by simpa using hi),hd⟩
 have hlt:∀d,o.dst=some d→d<a.tmps.size:=fun d hd=>by rw[h.size];exact hok.small d (hmem d hd)
 refine⟨hT _ _ _ h.ext hE,?_,?_,?_,?_⟩
 ·cases hd:o.dst<;>simp[Act.put,h.size]
 ·cases hd:o.dst<;>simp[Act.put,h.defers]
 ·intro t ht
  cases hd:o.dst with
  | none=>simp only[Act.put];exact h.other t ht
  | some d =>
   have hne:t≠d:=by rintro rfl;exact ht (hmem _ hd)
   rw[QbJ _ _ _ _ (hlt d hd),if_neg hne];exact h.other t ht
 ·intro j oj hj hl
  by_cases hij:j=i
  ·subst hij
   obtain rfl:o=oj:=by rw[hi]at hj;exact Option.some.inj hj
   cases hd:o.dst with
   | none=>rw[hd]at hv;simpa [Qcs,hd,Act.put]using hv
   | some d =>
    rw[hd]at hv;have:Qcs (a.put (some d) v) o=v:=by simp only[Qcs,hd];rw[QbJ _ _ _ _ (hlt d hd),if_pos rfl]
    rw[this];exact hv
  ·have hl':listed.getD j false=true:=by rw[getD_set_ne false (Ne.symm hij)]at hl;exact hl
   have hval:Qcs (a.put o.dst v) oj=Qcs a oj:=by
    cases hd:o.dst with
    | none=>rfl
    | some d =>
     cases hdj:oj.dst with
     | none=>simp[Qcs,hdj]
     | some dj =>
      have hne:dj≠d:=by
       rintro rfl;exact Qbq ops.toList i j o oj dj hok.nodup (by simpa using hi) (by simpa using hj) (Ne.symm hij) hd hdj
      simp only[Qcs,hdj];rw[QbJ _ _ _ _ (hlt d hd),if_neg hne]
   rw[hval];exact hΦ _ _ _ _ hE (h.facts j oj hj hl')
def OpG(P:Program)(ops:Array Oper)(Q:Exit→Act→World→Prop)(a0:Act)(w0:World)(E:World→World→Prop)(Φ:Nat→Value→World→Prop)(i:Nat)(o:Oper):Prop :=
 ∀(a:Act)(w:World),E w0 w→(∀t,t∉Qbi ops→a.tmps.getD t undef=a0.tmps.getD t undef) →
  (∀e∈o.after.toList,Region.binds .any e=true→∀oj,ops[e.on]? =some oj→Φ e.on (Qcs a oj) w) →
  if Region.wanted o (yielded ops a.tmps)=true then o.wp P a w (fun a' w'=>E w w'∧∃v,a'=a.put o.dst v∧Φ i (match o.dst with | some _=>v | none=>undef) w') Q else Φ i (match o.dst with | some _=>undef | none=>undef) w
theorem OKg.acyc{n:Nat}(hok:OKg ops n)(listed:Array Bool)(hs:listed.size=ops.size)(hr:Region.ready .any ops listed=[]):listed=Array.replicate ops.size true:=by
 have hall:∀i,i<ops.size→listed.getD i false=true:=by
  intro i
  induction i using Nat.strongRecOn with
  | _ i ih =>
   intro hi;refine Classical.byContradiction fun hno=>?_
   have hmem:i∈Region.ready .any ops listed:=by
    rw[mem_ready];refine⟨?_,ops[i],Array.getElem?_eq_getElem hi,?_⟩
    ·simp only[Array.getD,hs,hi,dif_pos]at hno ⊢
     simpa using hno
    ·intro e he hb
     have hlt:=hok.edges i ops[i] (Array.getElem?_eq_getElem hi) e (by simpa using he) hb;exact ih _ hlt (by omega)
   rw[hr]at hmem;cases hmem
 apply Array.ext
 ·simp[hs]
 ·intro i h1 h2
  have:=hall i (by simpa [hs]using h1);simp only[Array.getD,h1,dif_pos]at this;simpa using this
theorem wpAny_G{a0:Act}{w0:World}{E:World→World→Prop}{Φ:Nat→Value→World→Prop}(hok:OKg ops a0.tmps.size)(hR:∀a,E a a)(hT:∀a b c,E a b→E b c→E a c)
  (hΦ:∀j v w w',E w w'→Φ j v w→Φ j v w')(hop:∀i o,ops[i]? =some o→OpG P ops Q a0 w0 E Φ i o)
  (hdone:∀a w,Facts ops a0 w0 E Φ (Array.replicate ops.size true) a w→Q .normal a w)
  :
  ∀(fuel:Nat)(listed:Array Bool)(a:Act)(w:World),listed.size=ops.size→(listed.toList.filter (! ·)).length≤fuel→Facts ops a0 w0 E Φ listed a w→wpAny P .any ops Q fuel listed a w:=by
 intro fuel
 induction fuel with
 | zero =>
  intro listed a w hs hf h;have hall:listed=Array.replicate ops.size true:=by
   have h0:listed.toList.filter (! ·)=[]:=List.eq_nil_of_length_eq_zero (by omega);rw[List.filter_eq_nil_iff]at h0;apply Array.ext
   ·simp[hs]
   ·intro i h1 h2
    have:=h0 listed[i] (by simp);simpa using this
  subst hall;refine⟨?_,hdone _ _ h⟩;unfold Region.ready;rw[List.filter_eq_nil_iff];intro i hi;simp at hi;simp[Array.getD,hi]
 | succ fuel ih =>
  intro listed a w hs hf h;refine⟨fun hr=>?_,fun i hi=>?_⟩
  ·have:=hok.acyc listed hs hr
   subst this;exact hdone _ _ h
  ·rw[mem_ready]at hi
   obtain⟨hni,o,ho,hedges⟩:=hi;unfold wpOp;simp only[ho];have hd:=hop i o ho a w h.ext h.other (fun e he hb oj hoj=>h.facts _ _ hoj (hedges e (by simpa using he) hb));have hlen:((listed.setIfInBounds i true).toList.filter (! ·)).length≤fuel:=by
    have hilt:i<listed.size:=by
     rcases Nat.lt_or_ge i listed.size with h | h
     ·exact h
     ·simp[Array.getD,Nat.not_lt.2 h]at hni
    have hfalse:listed[i]=false:=by simpa [Array.getD,hilt]using hni
    have hcount:∀(l:List Bool)(k:Nat)(hk:k<l.length),l[k]=false→((l.set k true).filter (! ·)).length+1=(l.filter (! ·)).length:=by
     intro l
     induction l with
     | nil=>intro k hk;simp at hk
     | cons b l ihl =>
      intro k hk hb;cases k with
      | zero=>simp at hb;subst hb;simp
      | succ k =>
       simp only[List.set_cons_succ,List.filter_cons];have:=ihl k (by simpa using hk) (by simpa using hb);cases b<;>simp<;>omega
    have:=hcount listed.toList i (by simpa using hilt) (by simpa using hfalse);simp only[Array.toList_setIfInBounds];omega
   by_cases hw:Region.wanted o (yielded ops a.tmps)=true
   ·rw[if_pos hw]at hd ⊢
    refine .inl (Oper.wp_mono ?_ hd);rintro a' w'⟨hE,v,rfl,hv⟩;exact ih _ _ _ (by simp[hs]) hlen (h.stepG hok hT hΦ ho hni hE v hv)
   ·rw[if_neg hw]at hd ⊢
    exact ih _ _ _ (by simp[hs]) hlen (h.stepG hok hT hΦ ho hni (hR w) undef hd)
end
def QdG(ops:Array Oper)(n:Nat):Bool :=
 decide (Qbi ops).Nodup&&(Qbi ops).all (fun d=>decide (d<n))&&ops.toList.zipIdx.all (fun x=>x.1.after.toList.all fun e=>!Region.binds .any e||decide (e.on<x.2))
theorem okg_of{ops:Array Oper}{n:Nat}(h:QdG ops n=true):OKg ops n:=by
 simp only[QdG,Bool.and_eq_true,decide_eq_true_eq,List.all_eq_true]at h;obtain⟨⟨h1,h2⟩,h4⟩:=h;refine⟨h1,fun d hd=>by simpa using h2 d hd,?_⟩;intro i o hi e he hb;have hm:(o,i)∈ops.toList.zipIdx:=by
  rw[List.mem_zipIdx_iff_getElem?];simpa using hi
 have:=h4 (o,i) hm e he;rw[hb]at this;simpa using this
theorem Qfs{P:Program}{ops:Array Oper}{Q:Exit→Act→World→Prop}{id:Nat}{a0:Act}{w0:World}(hm:P.follows .mixedOrders=true)(hokb:QdG ops a0.tmps.size=true)(E:World→World→Prop)(Φ:Nat→Value→World→Prop)
  (hE0:E w0 w0.drew)(hR:∀a,E a a)(hT:∀a b c,E a b→E b c→E a c)(hΦ:∀j v w w',E w w'→Φ j v w→Φ j v w')
  (hop:∀i o,ops[i]? =some o→OpG P ops Q a0 w0 E Φ i o)
  (hdone:∀a w,Facts ops a0 w0 E Φ (Array.replicate ops.size true) a w→Q .normal a w):(Code.region id ops true).wp P Q a0 w0:=by
 refine wp_region_any hm (wpAny_G (okg_of hokb) hR hT hΦ hop hdone _ _ _ _ (by simp) (by simp) ?_);exact⟨hE0,rfl,rfl,fun _ _=>rfl,fun j o _ hl=>by simp[Array.getD]at hl⟩
theorem Qas{ops:Array Oper}{a:Act}{o og:Oper}{g:Nat}{b c:Bool}{d:Tmp}(hg:o.guard=some (g,b))(hog:ops[g]? =some og)(hd:og.dst=some d)(hv:a.tmps.getD d undef=.bool c):Region.wanted o (yielded ops a.tmps)=(c==b):=by
 have h1:a.tmps[d]? =some (.bool c):=by
  rw[Array.getD_eq_getD_getElem?]at hv;cases h:a.tmps[d]? with
  | none=>rw[h]at hv;cases hv
  | some x=>rw[h]at hv;exact congrArg some hv
 unfold Region.wanted yielded;rw[hg];simp[hog,hd,h1]
section
variable {P:Program}{o:Oper}{a:Act}{w:World}{K:Act→World→Prop}{Q:Exit→Act→World→Prop}
theorem QfT(op:UnOp)(t:TypeId)(x:Operand)(ho:o.op=.unOp op t x)(vx v:Value)(hx:a.eval x=vx)(hr:(Op.unary op vx).run P w=.ok v w)(h:K (a.put o.dst v) w):o.wp P a w K Q:=by
 unfold Oper.wp;simp only[execOp,ho,hx,Sem.run_bind,hr,Result.andThen_ok,Sem.run_pure,Oper.upon];exact h
theorem QcM(c x y:Operand)(ho:o.op=.pick c x y)(b:Bool)(hc:a.eval c=.bool b)(v:Value)(hv:(if b=true then a.eval x else a.eval y)=v)(h:K (a.put o.dst v) w):o.wp P a w K Q:=by
 subst hv;unfold Oper.wp;simp only[execOp,ho,hc,asBool,Sem.run_bind,Result.andThen_ok,Sem.run_pure,Oper.upon];exact h
end
end Go.Proofs.Pg
namespace Go.Proofs.Pg
open Go.RowKit
attribute [local go_sem] Oper.semAt_some
def SeP(w:World)(e:Ending)(w':World):Prop:=e=.returned (.bool true)∧Below w.heap.size w w'
def SeRl(w0:World)(n A B:Nat)(pl ql:Option Addr)(cl dl:Nat)(v5:Value)(wr:World):Prop:=∃i,v5=.int .i64 ((i:Nat):Int)∧i≤n∧Below w0.heap.size w0 wr∧wr.cell? ⟨A,10,none⟩=some (.slice pl n cl)∧wr.cell? ⟨B,10,none⟩=some (.slice ql n dl)
theorem px_row{w:World}{U:Nat→Prop}{p:Option Addr}{l:List PEx}{cs:List Value}(h:RwU w U 33 11 p l.length cs)(hs:∀i a,l[i]? =some a→PxIs w U ((cs.drop (i*11)).take 11) a){i:Nat}{a:PEx}(hi:l[i]? =some a) :
  ∃b o,p=some ⟨b,o,none⟩∧b<w.heap.size∧∃ds,PxIs w U ds a∧∀j v,ds[j]? =some v→w.cell? ⟨b,o+i*11+j,none⟩=some v:=by
 have hl:i<l.length:=(List.getElem?_eq_some_iff.1 hi).1;obtain⟨h1,h2⟩:=h;obtain⟨b,o,c,fr,rfl,_,hb,hc⟩:=h2.resolve_left (by omega);refine⟨b,o,rfl,Qad hb,_,hs i a hi,fun j v hv=>?_⟩;have hj:j<11:=by
  have:=(List.getElem?_eq_some_iff.1 hv).1;have h11:=(hs i a hi).len;omega
 rw[List.getElem?_take_of_lt hj,List.getElem?_drop]at hv;refine Qaa hb ?_;rw[show o+i*11+j=o+(i*11+j)by omega,hc _ (by have:(i+1)*11≤l.length*11:=Nat.mul_le_mul_right _ hl;omega)];exact hv
def SeOk(x:PEx):Prop:=∀(w:World)(U V:Nat→Prop)(cs ds:List Value),PxIs w U cs x→PxIs w V ds x→Calls Tryz.prog 12 #[.agg cs.toArray,.agg ds.toArray] w (SeP w)
end Go.Proofs.Pg
