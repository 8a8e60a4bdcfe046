/- FnComma: a last comma changes nothing; for every world. Part 33. -/
import Derived.Test.YtmhjkkkhdlnngaaGreatDoorZ32
set_option linter.all false
set_option maxRecDepth 100000
set_option maxHeartbeats 40000000
namespace Go.Proofs.Pg
open Go.RowKit
attribute [local go_sem] Oper.semAt_some
theorem wp_nameU{P:Program}{c:Code}{Q:Exit→Act→World→Prop}{a:Act}{w:World}(h:∀x,x=w→c.wp P Q a x):c.wp P Q a w:=h w rfl
theorem QcW{w:World}{d:Nat}{x:Option Obj}(h:w.heap[d]? =x):w.drew.heap[d]? =x:=h
structure ZK(w0:World)(B b:Nat)(x:Bool)(s:ByteArray)(vA vB:Value)(n:Nat)(xA xB:List Value)(w:World):Prop where
 ra:w.ownsRow B 4 1 vA n xA
 rb:w.ownsRow B 9 1 vB n xB
 rx:Below B w0 w
 rl:B≤w.heap.size
 rh:w.heap[b]? =some (.cells #[.bool x,.string s] 316 (0,0))
section
variable {w0 w:World}{B b:Nat}{x:Bool}{s:ByteArray}{vA vB:Value}{n:Nat}{xA xB:List Value}
theorem ZK.drew(h:ZK w0 B b x s vA vB n xA xB w):ZK w0 B b x s vA vB n xA xB w.drew:=⟨h.ra,h.rb,⟨h.rx.os,h.rx.tape,h.rx.output,h.rx.size,h.rx.block⟩,h.rl,h.rh⟩
theorem ZK.alloc(h:ZK w0 B b x s vA vB n xA xB w)(o:Obj):ZK w0 B b x s vA vB n xA xB (w.alloc o):=⟨Qbs h.ra o,Qbs h.rb o,h.rx.alloc h.rl o,by have:=h.rl;simp;omega,Qaf h.rh o⟩
theorem ZK.all(h:ZK w0 B b x s vA vB n xA xB w):w.cell? ⟨b,0,none⟩=some (.bool x)∧w.cell? ⟨b,1,none⟩=some (.string s)∧ZK w0 B b x s vA vB n xA xB w:=⟨Qaa h.rh rfl,Qaa h.rh rfl,h⟩
theorem Qb7{B:Nat}{w0 w w':World}{e:TypeId}{sz:Nat}{v:Value}{n:Nat}{xs:List Value}(h:Below B w0 w)(hl:B≤w0.heap.size)(ho:w.ownsRow B e sz v n xs)(hg:w.grownBy w' v.ownBlock):Below B w0 w' :=
 h.trans ((QaF hg).toBelow (fun d hd=>(Qa5 ho hd).1) (Nat.le_trans hl h.size))
theorem ZK.growA{w':World}(h:ZK w0 B b x s vA vB n xA xB w)(hl:B≤w0.heap.size)(hg:w.grownBy w' vA.ownBlock)(ho:w'.ownsRow B 4 1 vA n xA):ZK w0 B b x s vA vB n xA xB w' :=
 ⟨ho,QbD h.rb h.ra hg (by decide),Qb7 h.rx hl h.ra hg,Nat.le_trans h.rl hg.size,QaR h.rh h.ra hg (by decide)⟩
theorem ZK.growB{w':World}(h:ZK w0 B b x s vA vB n xA xB w)(hl:B≤w0.heap.size)(hg:w.grownBy w' vB.ownBlock)(ho:w'.ownsRow B 9 1 vB n xB):ZK w0 B b x s vA vB n xA xB w' :=
 ⟨QbD h.ra h.rb hg (by decide),ho,Qb7 h.rx hl h.rb hg,Nat.le_trans h.rl hg.size,QaR h.rh h.rb hg (by decide)⟩
theorem ZK.keep9{w':World}(h:ZK w0 B b x s vA vB n xA xB w)(hg:w.grownBy w' vA.ownBlock)(d:Nat)(c:Array Value)(fr:Nat×Nat)(hd:w.heap[d]? =some (.cells c 9 fr)):w'.heap[d]? =some (.cells c 9 fr):=QaR hd h.ra hg (by decide)
theorem ZK.keep4{w':World}(h:ZK w0 B b x s vA vB n xA xB w)(hg:w.grownBy w' vB.ownBlock)(v:Value)(n:Nat)(xs:List Value)(hd:w.ownsRow B 4 1 v n xs):w'.ownsRow B 4 1 v n xs:=QbD hd h.rb hg (by decide)
end
def ZzRel(w0:World)(l:List (Bool×ByteArray))(s2 s3 s9:Value)(wr:World):Prop :=
 ∃i,s9=.int .i64 ((i:Nat):Int)∧i≤l.length∧wr.ownsRow (w0.heap.size+1) 4 1 s2 i ((l.take i).map fun p=>.bool p.1)∧wr.ownsRow (w0.heap.size+1) 9 1 s3 i ((l.take i).map fun p=>.string p.2)∧Below w0.heap.size w0 wr∧w0.heap.size+1≤wr.heap.size
theorem zz_c(w:World)(lo:Nat)(p:Option Addr)(c:Nat)(l:List (Bool×ByteArray))(hr:Row2At w lo 316 p l.length (fun i=>.bool (l.getD i (false,⟨#[]⟩)).1) (fun i=>.string (l.getD i (false,⟨#[]⟩)).2))(hn:l.length≤10000000) :
  Calls Tryz.prog 89 #[.agg #[.slice p l.length c]] w fun e w'=>Below w.heap.size w w'∧∃v1 v2,e=.returned (.tuple #[v1,v2])∧w'.ownsRow w.heap.size 4 1 v1 l.length (l.map fun p=>.bool p.1)∧w'.ownsRow w.heap.size 9 1 v2 l.length (l.map fun p=>.string p.2):=by
 have HRW:=Hi hr;clear hr;go_enter Tryz.func89,Tryz.ntmps89
 go_upto_region 2 with(fail)
 obtain⟨w1,hw⟩:∃w1,w.alloc (.cells #[.slice p l.length c] 197)=w1:=⟨_,rfl⟩
 rw[hw];have HQ:Hid (ZzRel w l (.slice none 0 0) (.slice none 0 0) (.int .i64 0) w1):=Hi ⟨0,rfl,Nat.zero_le _,⟨rfl,.inl ⟨rfl,rfl⟩⟩,⟨rfl,.inl ⟨rfl,rfl⟩⟩,by rw[←hw];exact Qab w _,by rw[←hw];simp⟩;clear hw
 go_loopw [2,3,9] (fun s2 s3 s9 wr=>ZzRel w l s2 s3 s9 wr) (fun _ _ s9 _=>l.length-(intOf s9).toNat)
 case atStart=>exact HQ.out
 case round =>
  clear HQ;obtain⟨i,rfl,hi,hA,hB,hBl,hz⟩:=hrel;obtain⟨pA,cA,rfl,_⟩:=RwU.own hA;obtain⟨pB,cB,rfl,_⟩:=RwU.own hB;have HA:=Hi (And.intro hA (And.intro hB hBl));clear hA hB hBl;by_cases hlt:i<l.length
  ·obtain⟨b,off,cc,fr,rfl,hlb,hcb,hcc⟩:=HRW.out.resolve_left (by omega)
   obtain⟨⟨x,s⟩,hx⟩:∃x,l[i]? =some x:=⟨l[i],by simp[hlt]⟩
   have hcc:=hcc i hlt;have hgd:l.getD i (false,⟨#[]⟩)=(x,s):=by rw[List.getD_eq_getElem?_getD,hx];rfl
   simp only[hgd]at hcc;have hwb:=(HA.out.2.2.block b (Qad hcb)).trans hcb;have c0:wr.cell? ⟨b,off+i*2,none⟩=some (.bool x):=Qaa hwb hcc.1;have c1:wr.cell? ⟨b,off+i*2+1,none⟩=some (.string s):=Qaa hwb hcc.2;have HX:=Hi hx;clear hx hgd hcc hcb hwb
   go_upto_region 4 with(fail)
   refine wp_nameU fun w3 hw3=>?_
   have HK:Hid (ZK wr (w.heap.size+1) wr.heap.size x s (.slice pA i cA) (.slice pB i cB) i ((l.take i).map fun p=>.bool p.1) ((l.take i).map fun p=>.string p.2) w3):=Hi (by
    rw[hw3];exact⟨Qbs HA.out.1 _,Qbs HA.out.2.1 _,(Qab wr _).mono hz,by simp;omega,heap_alloc_new wr _⟩)
   clear hw3 c0 c1;have HK0:=HK.out.drew
   go_region_held3 (fun w'=>w'.cell? ⟨wr.heap.size,0,none⟩=some (.bool x)∧w'.cell? ⟨wr.heap.size,1,none⟩=some (.string s)∧ZK wr (w.heap.size+1) wr.heap.size x s (.slice pA i cA) (.slice pB i cB) i ((l.take i).map fun p=>.bool p.1) ((l.take i).map fun p=>.string p.2) w')
    (first | exact HK0.all | exact(ZK.alloc (And.right (And.right (by assumption))) _).all | exact hkB.all | exact hkA.all)
    ((first
     | (refine Qe7 sl254 rfl (.tmp 13) (.tmp 16) rfl (w.heap.size+1) (.slice pA i cA) i _ (by rfl) (ZK.ra (And.right (And.right (by assumption)))) _ [.bool x] rfl (by rfl) (by first | exact QaD (Qaa (Qah (by simp) _) rfl) | exact QaD (Qaa (Qaf (Qah (by simp) _) _) rfl) | exact QaD (Qaa (QcW (Qah (by simp) _)) rfl) | exact QaD (Qaa (QcW (Qaf (Qah (by simp) _) _)) rfl)) (fun v hv=>by rw[List.mem_singleton.1 hv];rfl) (by unfold maxLen;omega) (by omega) (ZK.rl (And.right (And.right (by assumption)))) ?_;intro v7 w7 hO7 hg7 ho7 hl7;have hk9:=ZK.keep9 (And.right (And.right (by assumption))) hg7;have hkA:=ZK.growA (And.right (And.right (by assumption))) hz hg7 ho7)
     | (refine Qe7 sl27 rfl (.tmp 18) (.tmp 21) rfl (w.heap.size+1) (.slice pB i cB) i _ (by rfl) (ZK.rb (And.right (And.right (by assumption)))) _ [.string s] rfl (by rfl) (by first | exact QaD (Qaa (Qah (by simp) _) rfl) | exact QaD (Qaa (Qaf (Qah (by simp) _) _) rfl) | exact QaD (Qaa (QcW (Qah (by simp) _)) rfl) | exact QaD (Qaa (QcW (Qaf (Qah (by simp) _) _)) rfl) | exact QaD (Qaa (hk9 _ _ _ (Qah (by simp) _)) rfl) | exact QaD (Qaa (hk9 _ _ _ (Qaf (Qah (by simp) _) _)) rfl) | exact QaD (Qaa (hk9 _ _ _ (QcW (Qah (by simp) _))) rfl) | exact QaD (Qaa (hk9 _ _ _ (QcW (Qaf (Qah (by simp) _) _))) rfl)) (fun v hv=>by rw[List.mem_singleton.1 hv];rfl) (by unfold maxLen;omega) (by omega) (ZK.rl (And.right (And.right (by assumption)))) ?_;intro v8 w8 hO8 hg8 ho8 hl8;have hk4:=ZK.keep4 (And.right (And.right (by assumption))) hg8;have hkB:=ZK.growB (And.right (And.right (by assumption))) hz hg8 ho8)))
   all_goals
    have hO9:w8.ownsRow (w.heap.size+1) 4 1 v7 (i+1) (((l.take i).map fun p=>Value.bool p.1)++[.bool x]):=by first | exact hk4 _ _ _ hO7 | exact hk4 _ _ _ (Qbs hO7 _) | exact hk4 _ _ _ (Qbs (w:=w7.drew) hO7 _)
    have hend:ZzRel w l v7 v8 (.int .i64 ((i:Int)+1)) w8:=by
     refine⟨i+1,by go_num,by omega,?_,?_,HA.out.2.2.trans (hkB.rx.mono (by omega)),hkB.rl⟩
     ·rw[List.take_add_one,HX.out,Option.toList,List.map_append];exact hO9
     ·rw[List.take_add_one,HX.out,Option.toList,List.map_append];exact hO8
    have HEND:=Hi hend;clear hend hO9 hO8 hO7 hkA hkB hk9 hk4 hg7 hg8 ho7 ho8 hl7 hl8;go_wp2;go_roundw
    case rel=>exact HEND.out
    case measure=>simp[intOf];omega
  ·obtain rfl:i=l.length:=by omega
   go_wp2_with fail
   go_ret2
   obtain⟨h1,h2,h3⟩:=HA.out;rw[List.take_of_length_le (Nat.le_refl _)]at h1 h2;exact⟨h3,_,_,rfl,Qcq h1 (by omega),Qcq h2 (by omega)⟩
def QaN(l:List (Bool×ByteArray)):List ByteArray:=(match l with
 | []=>[]
 | p::_=>if p.1=true then [⟨#[]⟩]else [])++l.map (·.2)
theorem Qfg{l:List (Bool×ByteArray)}{i:Nat}{x:Bool×ByteArray}(h:l[i]? =some x)(h0:0<i):QaN (l.take (i+1))=QaN (l.take i)++[x.2]:=by
 cases l with
 | nil=>simp at h
 | cons p l =>
  cases i with
  | zero=>omega
  | succ i =>
   simp only[List.take_succ_cons,QaN,List.map_cons,List.append_assoc,List.cons_append]
   congr 2
   rw[List.take_add_one,show l[i]? =some x by simpa using h];simp
theorem Qgh{l:List (Bool×ByteArray)}{x:Bool×ByteArray}(h:l[0]? =some x):QaN (l.take 1)=(if x.1=true then [⟨#[]⟩]else [])++[x.2]:=by
 cases l with
 | nil=>simp at h
 | cons p l=>simp at h;subst h;simp[QaN]
def Qh8(w0:World)(W B:Nat)(l:List (Bool×ByteArray))(s5 s15:Value)(wr:World):Prop :=
 ∃i,s15=.int .i64 ((i:Nat):Int)∧i≤l.length∧wr.ownsRow B 9 1 s5 (QaN (l.take i)).length ((QaN (l.take i)).map .string)∧Below B w0 wr∧B≤wr.heap.size∧(QaN (l.take i)).length≤i+1
theorem pieces_c(w:World)(lo:Nat)(p:Option Addr)(c:Nat)(l:List (Bool×ByteArray))(hr:Row2At w lo 316 p l.length (fun i=>.bool (l.getD i (false,⟨#[]⟩)).1) (fun i=>.string (l.getD i (false,⟨#[]⟩)).2))(hn:l.length≤10000000) :
  Calls Tryz.prog 66 #[.agg #[.slice p l.length c]] w fun e w'=>Below w.heap.size w w'∧∃v,e=.returned v∧w'.ownsRow w.heap.size 9 1 v (QaN l).length ((QaN l).map .string):=by
 have HRW:=Hi hr;clear hr;go_enter Tryz.func66,Tryz.ntmps66
 go_wp2_with fail
 have hb0:=Qab w (.cells #[.slice p l.length c] 197);refine(zz_c _ lo p c l (HRW.out.ext (.inr (.inr rfl)) (S:=fun _=>False) (.below hb0) (fun _ h=>h.elim)) hn).mono ?_;rintro e w1⟨B1,v1,v2,rfl,hA,hB⟩;have HB0:=Hi (hb0.trans (B1.mono hb0.size));obtain⟨p1,c1,rfl,hA1⟩:=RwU.own hA;obtain⟨p2,c2,rfl,hB2⟩:=RwU.own hB;have HA1:=Hi hA1.2;have HB2:=Hi hB2.2;clear hA hB hA1 hB2 B1 hb0
 go_wp2_with fail
 have HQ:Hid (Qh8 w1 0 w1.heap.size l (.slice none 0 0) (.int .i64 0) w1):=Hi ⟨0,rfl,Nat.zero_le _,⟨rfl,.inl ⟨rfl,rfl⟩⟩,.refl _ _,Nat.le_refl _,Nat.zero_le _⟩
 go_loopw [5,15] (fun s5 s15 wr=>Qh8 w1 0 w1.heap.size l s5 s15 wr) (fun _ s15 _=>l.length-(intOf s15).toNat)
 case atStart=>exact HQ.out
 case round =>
  clear HQ;obtain⟨i,rfl,hi,hO,hBl,hz,hle⟩:=hrel;have hpx:=fun x h h0=>Qfg (l:=l) (i:=i) (x:=x) h h0
  have hp0:i=0→QaN (l.take i)=[]:=fun h=>by subst h;rfl
  have hpn:i=l.length→QaN (l.take i)=QaN l:=fun h=>by rw[List.take_of_length_le (by omega)]
  generalize QaN (l.take i)=acc at *;have HPX:=Hi hpx;have HPN:=Hi hpn;clear hpx hpn;obtain⟨p5,c5,rfl,_⟩:=RwU.own hO;have HO:=Hi (And.intro hO hBl);clear hO hBl;by_cases hlt:i<l.length
  ·obtain⟨g1,o1,cc1,fr1,rfl,hg1,hh1,hc1⟩:=HA1.out.resolve_left (by omega)
   obtain⟨g2,o2,cc2,fr2,rfl,hg2,hh2,hc2⟩:=HB2.out.resolve_left (by omega);obtain⟨⟨x,s⟩,hx⟩:∃x,l[i]? =some x:=⟨l[i],by simp[hlt]⟩
   have hs2:wr.cell? ⟨g2,o2+i,none⟩=some (.string s):=Qaa ((HO.out.2.block g2 (Qad hh2)).trans hh2) ((hc2 i (by omega)).trans (by simp[hx]));have HS2:Hid (∀w',Below w1.heap.size w1 w'→w'.cell? ⟨g2,o2+i,none⟩=some (.string s)):=Hi fun w' hB'=>Qaa ((hB'.block g2 (Qad hh2)).trans hh2) ((hc2 i (by omega)).trans (by simp[hx]))
   clear hh2 hc2;by_cases h0:i=0
   ·have HP0:=Hi (hp0 h0)
    subst h0;clear hp0;rw[Nat.add_zero]at hs2;have hs1:wr.cell? ⟨g1,o1,none⟩=some (.bool x):=by
     have h:=Qaa (o:=o1+0) ((HO.out.2.block g1 (Qad hh1)).trans hh1) ((hc1 0 (by omega)).trans (show _=some (Value.bool x)by simp[hx]))
     rwa [Nat.add_zero]at h
    have HP1:=Hi (Qgh hx);clear hh1 hc1 hx;cases x with
    | true =>
     have hwz:=HO.out.2.size
     go_wp2_with(at_builtin;refine appG sl27 rfl _ _ rfl w1.heap.size _ _ _ rfl (Qbs HO.out.1 _) _ [.string ⟨#[]⟩] rfl rfl (QaD (Qaa (heap_alloc_new wr _) rfl)) (fun v hv=>by rw[List.mem_singleton.1 hv];rfl) (by unfold maxLen;omega) (by omega) (by simp;omega) ?_)
     intro v8 w8 hO9 hg9 _;have HO8:=Hi (And.intro hO9 (HO.out.2.trans (Qb7 ((Qab wr (.cells #[.string ⟨#[]⟩] 9)).mono (by omega)) (by omega) (Qbs HO.out.1 (.cells #[.string ⟨#[]⟩] 9)) hg9)));clear hO9 hg9 hwz;have hs28:w8.cell? ⟨g2,o2,none⟩=some (.string s):=by have:=HS2.out w8 HO8.out.2;rwa [Nat.add_zero]at this
     obtain⟨p8,c8,rfl,_⟩:=RwU.own HO8.out.1;have hwz:=HO8.out.2.size
     go_wp2_with(at_builtin;refine appG sl27 rfl _ _ rfl w1.heap.size _ _ _ rfl (Qbs HO8.out.1 _) _ [.string s] rfl rfl (QaD (Qaa (heap_alloc_new w8 _) rfl)) (fun v hv=>by rw[List.mem_singleton.1 hv];rfl) (by unfold maxLen;omega) (by omega) (by simp;omega) ?_)
     intro v7 w7 hO9 hg9 _;have HO7:=Hi (And.intro hO9 (HO8.out.2.trans (Qb7 ((Qab w8 (.cells #[.string s] 9)).mono (by omega)) (by omega) (Qbs HO8.out.1 (.cells #[.string s] 9)) hg9)));clear hO9 hg9 hwz;have HEND:Hid (Qh8 w1 0 w1.heap.size l v7 (.int .i64 1) w7):=Hi ⟨1,rfl,by omega,by rw[HP1.out];simpa [HP0.out]using HO7.out.1,HO7.out.2,HO7.out.2.size,by rw[HP1.out];simp⟩
     go_wp2_with fail
     go_roundw
     case rel=>exact HEND.out
     case measure=>simp[intOf];omega
    | false =>
     have hwz:=HO.out.2.size
     go_wp2_with(at_builtin;refine appG sl27 rfl _ _ rfl w1.heap.size _ _ _ rfl (Qbs HO.out.1 _) _ [.string s] rfl rfl (QaD (Qaa (heap_alloc_new wr _) rfl)) (fun v hv=>by rw[List.mem_singleton.1 hv];rfl) (by unfold maxLen;omega) (by omega) (by simp;omega) ?_)
     intro v7 w7 hO9 hg9 _;have HO7:=Hi (And.intro hO9 (HO.out.2.trans (Qb7 ((Qab wr (.cells #[.string s] 9)).mono (by omega)) (by omega) (Qbs HO.out.1 (.cells #[.string s] 9)) hg9)));clear hO9 hg9 hwz;have HEND:Hid (Qh8 w1 0 w1.heap.size l v7 (.int .i64 1) w7):=Hi ⟨1,rfl,by omega,by rw[HP1.out];simpa [HP0.out]using HO7.out.1,HO7.out.2,HO7.out.2.size,by rw[HP1.out];simp⟩
     go_wp2_with fail
     go_roundw
     case rel=>exact HEND.out
     case measure=>simp[intOf];omega
   ·have hip:0<i:=by omega
    have e0:((i:Int)==0)=false:=by simp;exact h0
    have HP1:=Hi (HPX.out _ hx hip);clear hh1 hc1 hx h0 hp0;have hwz:=HO.out.2.size
    go_wp2_with(at_builtin;refine appG sl27 rfl _ _ rfl w1.heap.size _ _ _ rfl (Qbs HO.out.1 _) _ [.string s] rfl rfl (QaD (Qaa (heap_alloc_new wr _) rfl)) (fun v hv=>by rw[List.mem_singleton.1 hv];rfl) (by unfold maxLen;omega) (by omega) (by simp;omega) ?_)
    intro v7 w7 hO9 hg9 _;have HO7:=Hi (And.intro hO9 (HO.out.2.trans (Qb7 ((Qab wr (.cells #[.string s] 9)).mono (by omega)) (by omega) (Qbs HO.out.1 (.cells #[.string s] 9)) hg9)));clear hO9 hg9 hwz;have HEND:Hid (Qh8 w1 0 w1.heap.size l v7 (.int .i64 ((i:Int)+1)) w7):=Hi ⟨i+1,by go_num,by omega,by rw[HP1.out];simpa [Nat.add_assoc]using HO7.out.1,HO7.out.2,HO7.out.2.size,by rw[HP1.out];simp;omega⟩
    go_wp2_with fail
    go_roundw
    case rel=>exact HEND.out
    case measure=>simp[intOf];omega
  ·obtain rfl:i=l.length:=by omega
   have h1:=HO.out.1;have HE:Hid (wr.ownsRow w1.heap.size 9 1 (.slice p5 acc.length c5) (QaN l).length ((QaN l).map .string)):=Hi (by rw[←HPN.out rfl];exact h1);clear h1 hp0
   go_wp2_with fail
   go_ret;exact⟨HB0.out.trans (HO.out.2.mono HB0.out.size),_,rfl,Qcq HE.out HB0.out.size⟩
theorem px_like{a:Ex}{y:PEx}(hC:PxC a y)(l:List (Bool×ByteArray))(hm:l.length≤10000000):PxC (.like a l) (.mk 15 ⟨#[]⟩ pv0 [] (QaN l) [y]):=by
 intro w lo v hn;cases hn with
 | like x _ _ p c hn hr =>
 have HC:=Hi hC;clear hC;obtain⟨T1,x,rfl⟩:=hn.iface;have HBB:=Hi (((Qab w (.cells xZero 33)).alloc (by simp) (.cells #[.iface T1 x,.slice p l.length c] 199)).alloc (by simp;omega) (.cells #[.iface T1 x] 136));have HRR:=Hi (Qaf (Qaf (heap_alloc_new w (.cells xZero 33)) (.cells #[.iface T1 x,.slice p l.length c] 199)) (.cells #[.iface T1 x] 136));have HLL:Hid ((((w.alloc (.cells xZero 33)).alloc (.cells #[.iface T1 x,.slice p l.length c] 199)).alloc (.cells #[.iface T1 x] 136)).heap[w.heap.size+1]? =some (.cells #[.iface T1 x,.slice p l.length c] 199 (0,0))):=Hi (Qaf (Qah (by simp) _) _)
 have HRW:=Hi (hr.ext (S:=fun _=>False) (.inr (.inr rfl)) (Ext.below HBB.out) (fun _ h=>h.elim));clear hr;go_enter Tryz.func51,Tryz.ntmps51
 go_wp2_with fail
 refine(QcC HC.out _ ((w.alloc _).alloc _) 15 _ lo _ _ _ rfl (by simp) (hn.later HBB.out)).mono ?_;rintro e w2⟨B2,ds,hpx,rfl⟩;have HRW2:=Hi (HRW.out.ext (S:=fun _=>False) (.inr (.inr rfl)) (Ext.below B2) (fun _ h=>h.elim));cases hpx with
 | mk _ _ _ _ _ _ pk pp pl ck cp cl cs' hk hp hl hch =>
 have HPX:=Hi (And.intro hk (And.intro hl hch));clear hk hp hl hch;have HR2:=Hi ((B2.block _ (Qad HRR.out)).trans HRR.out);have HL2:=Hi ((B2.block _ (Qad HLL.out)).trans HLL.out);have HB2:=Hi (HBB.out.trans (B2.mono HBB.out.size));have hz2:w.heap.size+3≤w2.heap.size:=by have:=B2.size;simp at this;omega
 clear B2 HRW HBB HRR HLL
 go_upto_region 21 with(fail)
 refine QaB fun w3 hw3=>?_
 have B3:Below w2.heap.size w2 w3:=by rw[hw3];exact Qab w2 _
 have h3:w3.heap[w2.heap.size]? =some (.cells (xCells 15 ⟨#[]⟩ 0 0 ⟨#[]⟩ ⟨#[]⟩ (.slice pk 0 ck) (.slice pp 0 cp) (.slice pl 1 cl)) 33 (0,0)):=by rw[hw3];exact heap_alloc_new _ _
 have hz3:w3.heap.size=w2.heap.size+1:=by rw[hw3];simp
 clear hw3;have cp1:w3.cell? ⟨w.heap.size+1,1,none⟩=some (.slice p l.length c):=Qaa ((B3.block _ (Qad HL2.out)).trans HL2.out) rfl;have HRW3:=Hi (HRW2.out.ext (S:=fun _=>False) (.inr (.inr rfl)) (Ext.below B3) (fun _ h=>h.elim));have HB3:=Hi (And.intro B3 h3);clear B3 h3
 go_wp2_with fail
 refine(pieces_c w3 lo p c l HRW3.out (by omega)).mono ?_;rintro e w4⟨B4,v4,rfl,hO4⟩;have h4:=(B4.block _ (Qad HB3.out.2)).trans HB3.out.2;have B24:=HB3.out.1.trans (B4.mono HB3.out.1.size);obtain⟨p4,c4,rfl,hrow⟩:=RwU.own hO4;have hc9:w4.cell? ⟨w2.heap.size,9,none⟩=some (.slice pp 0 cp):=Qaa h4 rfl;have hf9:w4.frozen? ⟨w2.heap.size,9,none⟩=false:=Qae h4 9;have h5:=Qac (o:=9) h4 (.slice p4 (QaN l).length c4)
 have E5:Ext (·=w2.heap.size) w4 (w4.setCell ⟨w2.heap.size,9,none⟩ (.slice p4 (QaN l).length c4)):=(Ext.refl (·=w2.heap.size) w4).set (p:=⟨w2.heap.size,9,none⟩) (.inl rfl) _;have H5:=Hi (And.intro h5 (And.intro E5 (And.intro B24 hrow)));have hz4:=B24.size;have hz34:=B4.size;clear h4 B4 B24 hO4 hrow h5 E5
 go_upto_region 22 with(fail)
 refine QaB fun w5 hw5=>?_
 rw[←hw5]at H5;clear hw5 hc9 hf9;obtain⟨h5,E5,B24,hrow⟩:=H5.out;have B25:Below w2.heap.size w2 w5:=((Ext.below (S:=fun _=>False) B24).trans' E5 (fun d hd=>by omega)).toBelow (fun _ h=>h.elim) (Nat.le_refl _);have hR5:=(B25.block _ (Qad HR2.out)).trans HR2.out;have hPX5:=HPX.out;have HF:=Hi (And.intro hR5 (And.intro B25 (And.intro hrow E5)));clear H5 E5 B24 hrow B25 hR5 hPX5;have k0:w5.cell? ⟨w2.heap.size,0,none⟩=some (.int .i64 15):=Qaa h5 rfl
 have k1:w5.cell? ⟨w2.heap.size,1,none⟩=some (.string ⟨#[]⟩):=Qaa h5 rfl;have k2:w5.cell? ⟨w2.heap.size,2,none⟩=some (.int .i64 0):=Qaa h5 rfl;have k3:w5.cell? ⟨w2.heap.size,3,none⟩=some (.int .i64 0):=Qaa h5 rfl;have k4:w5.cell? ⟨w2.heap.size,4,none⟩=some (.string ⟨#[]⟩):=Qaa h5 rfl;have k5:w5.cell? ⟨w2.heap.size,5,none⟩=some (.string ⟨#[]⟩):=Qaa h5 rfl;have k6:w5.cell? ⟨w2.heap.size,6,none⟩=some (.slice none 0 0):=Qaa h5 rfl
 have k7:w5.cell? ⟨w2.heap.size,7,none⟩=some (.slice none 0 0):=Qaa h5 rfl;have k8:w5.cell? ⟨w2.heap.size,8,none⟩=some (.slice pk 0 ck):=Qaa h5 rfl;have k9:w5.cell? ⟨w2.heap.size,9,none⟩=some (.slice p4 (QaN l).length c4):=Qaa h5 rfl;have k10:w5.cell? ⟨w2.heap.size,10,none⟩=some (.slice pl 1 cl):=Qaa h5 rfl;clear h5;obtain⟨e0,e1,e2,e3,e4,e5,e6,e7,e8,e9,e10,f0,f1,f2,f3,f4,f5,f6,f7,f8,f9,f10⟩:=Qa6 HF.out.1
 go_wp2_with fail
 obtain⟨w9,hw9,h9,hE⟩:=Qch HF.out.1 rfl (.int .i64 15) (.string ⟨#[]⟩) (.int .i64 0) (.int .i64 0) (.string ⟨#[]⟩) (.string ⟨#[]⟩) (.slice none 0 0) (.slice none 0 0) (.slice pk 0 ck) (.slice p4 (QaN l).length c4) (.slice pl 1 cl);rw[hw9];clear hw9;refine Qbp _ 2 3 (by kernel_rfl) rfl rfl rfl h9 rfl ?_;obtain⟨hR5,B25,hrow,E5⟩:=HF.out;obtain⟨hk,hl,hch⟩:=HPX.out;have hE59:Ext (fun d=>d=w.heap.size∨d=w2.heap.size) w4 w9:=(E5.mono (fun _ h=>.inr h)).trans (hE.mono (fun _ h=>.inl h))
 have hE29:Ext (·=w.heap.size) w2 w9:=(Ext.below (S:=(·=w.heap.size)) B25).trans hE;refine⟨((Ext.below (S:=fun _=>False) HB2.out).trans' hE29 (fun d hd=>by omega)).toBelow (fun _ h=>h.elim) (Nat.le_refl _),_,.mk 15 ⟨#[]⟩ pv0 [] (QaN l) [y] pk p4 pl ck c4 cl cs' .nil ?_ ?_ ?_,rfl⟩
 ·exact hrow.ext hE59 (fun d hd hlt=>⟨by omega,by omega⟩)
 ·exact hl.ext hE29 (fun d hd hlt=>⟨by simp at hd;omega,by simp at hd;omega⟩)
 ·exact fun i a hi=>(hch i a hi).ext hE29 (fun d hd hlt=>⟨by simp at hd;omega,by simp at hd;omega⟩)
end Go.Proofs.Pg
namespace Go.Proofs.Pg
open Go.RowKit
section
variable {P:Program}{ops:Array Oper}{Q:Exit→Act→World→Prop}
def Qbi(ops:Array Oper):List Tmp:=ops.toList.filterMap (·.dst)
def Qcs(a:Act)(o:Oper):Value:=match o.dst with | some d=>a.tmps.getD d undef | none=>undef
structure Region.OK(ops:Array Oper)(n:Nat):Prop where
 nodup:(Qbi ops).Nodup
 small:∀d∈Qbi ops,d<n
 guard:∀o∈ops.toList,o.guard=none
 edges:∀i o,ops[i]? =some o→∀e∈o.after.toList,Region.binds .any e=true→e.on<i
structure Facts(ops:Array Oper)(a0:Act)(w0:World)(E:World→World→Prop)(Φ:Nat→Value→World→Prop)(listed:Array Bool)(a:Act)(w:World):Prop where
 ext:E w0 w
 size:a.tmps.size=a0.tmps.size
 defers:a.defers=a0.defers
 other:∀t,t∉Qbi ops→a.tmps.getD t undef=a0.tmps.getD t undef
 facts:∀j o,ops[j]? =some o→listed.getD j false=true→Φ j (Qcs a o) w
theorem QbJ(a:Act)(d:Tmp)(v:Value)(t:Tmp)(hd:d<a.tmps.size):(a.put (some d) v).tmps.getD t undef=if t=d then v else a.tmps.getD t undef:=by
 simp only[Act.put,Array.getD_eq_getD_getElem?,Array.getElem?_setIfInBounds];by_cases h:t=d
 ·subst h;simp[hd]
 ·simp[h,Ne.symm h]
theorem Qbq:∀(l:List Oper)(i j:Nat)(oi oj:Oper)(d:Tmp),(l.filterMap (·.dst)).Nodup→l[i]? =some oi→l[j]? =some oj→i≠j→oi.dst=some d→oj.dst≠some d
 | [],i,j,oi,oj,d,_,h,_,_,_=>by simp at h
 | o::l,i,j,oi,oj,d,hn,hi,hj,hij,hdi=>by
  have key:∀(k:Nat)(ok:Oper),l[k]? =some ok→ok.dst=some d→d∈l.filterMap (·.dst):=fun k ok hk hd =>
   List.mem_filterMap.2 ⟨ok,List.mem_of_getElem? hk,hd⟩
  have htail:(l.filterMap (·.dst)).Nodup:=by
   rw[List.filterMap_cons]at hn;split at hn
   ·exact hn
   ·exact(List.nodup_cons.1 hn).2
  have hhead:o.dst=some d→d∉l.filterMap (·.dst):=by
   intro hd;rw[List.filterMap_cons,hd]at hn;exact(List.nodup_cons.1 hn).1
  cases i with
  | zero =>
   cases j with
   | zero=>exact absurd rfl hij
   | succ j =>
    simp at hi hj;subst hi;intro h;exact hhead hdi (key j oj (by simpa using hj) h)
  | succ i =>
   cases j with
   | zero =>
    simp at hi hj;subst hj;intro h;exact hhead h (key i oi (by simpa using hi) hdi)
   | succ j=>exact Qbq l i j oi oj d htail (by simpa using hi) (by simpa using hj) (by omega) hdi
theorem Facts.step{a0:Act}{w0:World}{E:World→World→Prop}{Φ:Nat→Value→World→Prop}(hok:Region.OK ops a0.tmps.size)(hT:∀a b c,E a b→E b c→E a c)
  (hΦ:∀j v w w',E w w'→Φ j v w→Φ j v w'){listed:Array Bool}{a:Act}{w w':World}(h:Facts ops a0 w0 E Φ listed a w){i:Nat}{o:Oper}(hi:ops[i]? =some o)(hni:listed.getD i true=false)
  (hE:E w w')(v:Value)(hv:Φ i (match o.dst with | some _=>v | none=>undef) w'):Facts ops a0 w0 E Φ (listed.setIfInBounds i true) (a.put o.dst v) w':=by
 have hilt:i<listed.size:=by
  rcases Nat.lt_or_ge i listed.size with h | h
  ·exact h
  ·simp[Array.getD,Nat.not_lt.2 h]at hni
 have hmem:∀d,o.dst=some d→d∈Qbi ops:=fun d hd=>List.mem_filterMap.2 ⟨o,List.mem_of_getElem? (by simpa using hi),hd⟩
 have hlt:∀d,o.dst=some d→d<a.tmps.size:=fun d hd=>by rw[h.size];exact hok.small d (hmem d hd)
 refine⟨hT _ _ _ h.ext hE,?_,?_,?_,?_⟩
 ·cases hd:o.dst<;>simp[Act.put,h.size]
 ·cases hd:o.dst<;>simp[Act.put,h.defers]
 ·intro t ht
  cases hd:o.dst with
  | none=>simp only[Act.put];exact h.other t ht
  | some d =>
   have hne:t≠d:=by rintro rfl;exact ht (hmem _ hd)
   rw[QbJ _ _ _ _ (hlt d hd),if_neg hne];exact h.other t ht
 ·intro j oj hj hl
  by_cases hij:j=i
  ·subst hij
   obtain rfl:o=oj:=by rw[hi]at hj;exact Option.some.inj hj
   cases hd:o.dst with
   | none=>rw[hd]at hv;simpa [Qcs,hd,Act.put]using hv
   | some d =>
    rw[hd]at hv;have:Qcs (a.put (some d) v) o=v:=by simp only[Qcs,hd];rw[QbJ _ _ _ _ (hlt d hd),if_pos rfl]
    rw[this];exact hv
  ·have hl':listed.getD j false=true:=by rw[getD_set_ne false (Ne.symm hij)]at hl;exact hl
   have hval:Qcs (a.put o.dst v) oj=Qcs a oj:=by
    cases hd:o.dst with
    | none=>rfl
    | some d =>
     cases hdj:oj.dst with
     | none=>simp[Qcs,hdj]
     | some dj =>
      have hne:dj≠d:=by
       rintro rfl;exact Qbq ops.toList i j o oj dj hok.nodup (by simpa using hi) (by simpa using hj) (Ne.symm hij) hd hdj
      simp only[Qcs,hdj];rw[QbJ _ _ _ _ (hlt d hd),if_neg hne]
   rw[hval];exact hΦ _ _ _ _ hE (h.facts j oj hj hl')
def OpDoes(P:Program)(ops:Array Oper)(Q:Exit→Act→World→Prop)(a0:Act)(w0:World)(E:World→World→Prop)(Φ:Nat→Value→World→Prop)(i:Nat)(o:Oper):Prop :=
 ∀(a:Act)(w:World),E w0 w→(∀t,t∉Qbi ops→a.tmps.getD t undef=a0.tmps.getD t undef) →
  (∀e∈o.after.toList,Region.binds .any e=true→∀oj,ops[e.on]? =some oj→Φ e.on (Qcs a oj) w) →
  o.wp P a w (fun a' w'=>E w w'∧∃v,a'=a.put o.dst v∧Φ i (match o.dst with | some _=>v | none=>undef) w') Q
theorem Region.OK.acyc{n:Nat}(hok:Region.OK ops n)(listed:Array Bool)(hs:listed.size=ops.size)(hr:Region.ready .any ops listed=[]):listed=Array.replicate ops.size true:=by
 have hall:∀i,i<ops.size→listed.getD i false=true:=by
  intro i
  induction i using Nat.strongRecOn with
  | _ i ih =>
   intro hi;refine Classical.byContradiction fun hno=>?_
   have hmem:i∈Region.ready .any ops listed:=by
    rw[mem_ready];refine⟨?_,ops[i],Array.getElem?_eq_getElem hi,?_⟩
    ·simp only[Array.getD,hs,hi,dif_pos]at hno ⊢
     simpa using hno
    ·intro e he hb
     have hlt:=hok.edges i ops[i] (Array.getElem?_eq_getElem hi) e (by simpa using he) hb;exact ih _ hlt (by omega)
   rw[hr]at hmem;cases hmem
 apply Array.ext
 ·simp[hs]
 ·intro i h1 h2
  have:=hall i (by simpa [hs]using h1);simp only[Array.getD,h1,dif_pos]at this;simpa using this
theorem Facts.frame{a0:Act}{w0:World}{E:World→World→Prop}{Φ:Nat→Value→World→Prop}{listed:Array Bool}{a:Act}{w:World}(h:Facts ops a0 w0 E Φ listed a w) :
  ∃vs:Nat→Value,a={tmps:=a0.tmps.mapIdx fun i x=>if(Qbi ops).contains i then vs i else x,defers:=a0.defers}∧∀d,a.tmps.getD d undef=(if d∈Qbi ops then a.tmps.getD d undef else a0.tmps.getD d undef):=by
 refine⟨fun i=>a.tmps.getD i undef,?_,?_⟩
 ·obtain⟨t,ds⟩:=a
  have hs:=h.size;have hd:=h.defers;have ho:=h.other;simp only at hs hd ho ⊢;subst hd
  congr 1
  apply Array.ext
  ·simp[hs]
  ·intro i h1 h2
   simp only[Array.getElem_mapIdx];split
   ·simp[Array.getD,h1]
   ·rename_i hc
    have:=ho i (by simpa using hc);simp only[Array.getD,h1,dif_pos]at this;rw[hs]at h1;simpa [h1]using this
 ·intro d
  split
  ·rfl
  ·rename_i hd;exact h.other d hd
end
def Qd3(ops:Array Oper)(n:Nat):Bool :=
 decide (Qbi ops).Nodup&&(Qbi ops).all (fun d=>decide (d<n))&&ops.toList.all (fun o=>o.guard.isNone) &&
  ops.toList.zipIdx.all (fun x=>x.1.after.toList.all fun e=>!Region.binds .any e||decide (e.on<x.2)) &&
  ops.toList.all (fun o=>match o.op with | .defer _=>false | _=>true)
theorem Qfh{ops:Array Oper}{n:Nat}(h:Qd3 ops n=true):Region.OK ops n∧∀o∈ops.toList,∀c,o.op≠.defer c:=by
 simp only[Qd3,Bool.and_eq_true,decide_eq_true_eq,List.all_eq_true]at h;obtain⟨⟨⟨⟨h1,h2⟩,h3⟩,h4⟩,h5⟩:=h;refine⟨⟨h1,fun d hd=>by simpa using h2 d hd,fun o ho=>by simpa using h3 o ho,?_⟩,?_⟩
 ·intro i o hi e he hb
  have hm:(o,i)∈ops.toList.zipIdx:=by
   rw[List.mem_zipIdx_iff_getElem?];simpa using hi
  have:=h4 (o,i) hm e he;rw[hb]at this;simpa using this
 ·intro o ho c hc
  have:=h5 o ho;rw[hc]at this;cases this
section
variable {P:Program}{o:Oper}{a:Act}{w:World}{K:Act→World→Prop}{Q:Exit→Act→World→Prop}
theorem Qb5(x:Operand)(ho:o.op=.move x)(v:Value)(hx:a.eval x=v)(h:K (a.put o.dst v) w):o.wp P a w K Q:=by
 unfold Oper.wp;simp only[execOp,ho,hx,Sem.run_pure,Oper.upon];exact h
theorem QaO(t:TypeId)(x:Operand)(ho:o.op=.load t x)(p:Value)(hx:a.eval x=p)(v:Value)(hr:(Instr.loadAt t p).run P w=.ok v w)(h:K (a.put o.dst v) w):o.wp P a w K Q:=by
 unfold Oper.wp;simp only[execOp,ho,hx,Sem.run_bind,hr,Result.andThen_ok,Sem.run_pure,Oper.upon];exact h
theorem Qct(t:TypeId)(x y:Operand)(ho:o.op=.store t x y)(p:Value)(hx:a.eval x=p)(v:Value)(hy:a.eval y=v)(w':World)(hr:(Instr.storeAt t p v).run P w=.ok () w')(h:K (a.put o.dst undef) w'):o.wp P a w K Q:=by
 unfold Oper.wp;simp only[execOp,ho,hx,hy,Sem.run_bind,hr,Result.andThen_ok,Sem.run_pure,Oper.upon];exact h
theorem Qaw(t:TypeId)(x:Operand)(i:Nat)(ho:o.op=.fieldAddr t x i)(p:Value)(hx:a.eval x=p)(v:Value)(hr:(Instr.fieldAt t p i).run P w=.ok v w)(h:K (a.put o.dst v) w):o.wp P a w K Q:=by
 unfold Oper.wp;simp only[execOp,ho,hx,Sem.run_bind,hr,Result.andThen_ok,Sem.run_pure,Oper.upon];exact h
end
section
variable {P:Program}{ops:Array Oper}{Q:Exit→Act→World→Prop}
theorem Qh9:∀(l:List Bool)(k:Nat)(hk:k<l.length),l[k]=false→((l.set k true).filter (! ·)).length+1=(l.filter (! ·)).length:=by
 intro l
 induction l with
 | nil=>intro k hk;simp at hk
 | cons b l ihl =>
  intro k hk hb;cases k with
  | zero=>simp at hb;subst hb;simp
  | succ k =>
   simp only[List.set_cons_succ,List.filter_cons];have:=ihl k (by simpa using hk) (by simpa using hb);cases b<;>simp<;>omega
end
section
variable {P:Program}{ops:Array Oper}{Q:Exit→Act→World→Prop}
def Qfi(ops:Array Oper)(listed:Array Bool):Prop:=∀j o,ops[j]? =some o→listed.getD j false=true→∀e∈o.after.toList,Region.binds .any e=true→listed.getD e.on false=true
theorem Qf9{listed:Array Bool}{i j:Nat}(hi:i<listed.size):(listed.setIfInBounds i true).getD j false=if j=i then true else listed.getD j false:=by
 simp only[Array.getD_eq_getD_getElem?,Array.getElem?_setIfInBounds];by_cases h:j=i
 ·subst h;simp[hi]
 ·simp[h,Ne.symm h]
theorem Qgi{a0:Act}{w0:World}{E:World→World→Prop}{Φ:Nat→Value→World→Prop}(hok:Region.OK ops a0.tmps.size)(hT:∀a b c,E a b→E b c→E a c)
  (hΦ:∀j v w w',E w w'→Φ j v w→Φ j v w')(L:Nat)(hL:L<ops.size)
  (hcl:∀listed:Array Bool,Qfi ops listed→(∀o,ops[L]? =some o→∀e∈o.after.toList,Region.binds .any e=true→listed.getD e.on false=true)→∀j,j<L→listed.getD j false=true)
  (htl:∀i o,L<i→ops[i]? =some o→∃e∈o.after.toList,Region.binds .any e=true∧L≤e.on)
  (hop:∀i o,i<L→ops[i]? =some o→OpDoes P ops Q a0 w0 E Φ i o)
  (hlast:∀a w,Facts ops a0 w0 E Φ (Array.replicate L true++Array.replicate (ops.size-L) false) a w→∀k,wpAny P .any ops Q (k+(ops.size-L)) (Array.replicate L true++Array.replicate (ops.size-L) false) a w) :
  ∀(fuel:Nat)(listed:Array Bool)(a:Act)(w:World),listed.size=ops.size→(∀j,L≤j→listed.getD j false=false)→Qfi ops listed→(listed.toList.filter (! ·)).length≤fuel→Facts ops a0 w0 E Φ listed a w→wpAny P .any ops Q fuel listed a w:=by
 intro fuel
 induction fuel with
 | zero =>
  intro listed a w hs hl _ hf h;exfalso;have h0:listed.toList.filter (! ·)=[]:=List.eq_nil_of_length_eq_zero (by omega);rw[List.filter_eq_nil_iff]at h0;have hlt:L<listed.size:=by omega
  have h1:listed[L]=false:=by simpa [Array.getD,hlt]using hl L (Nat.le_refl _)
  have:=h0 listed[L] (by simp);rw[h1]at this;simp at this
 | succ fuel ih =>
  intro listed a w hs hl hc hf h;by_cases hall:∀j,j<L→listed.getD j false=true
  ·have hle:listed=Array.replicate L true++Array.replicate (ops.size-L) false:=by
    apply Array.ext
    ·simp;omega
    ·intro j h1 h2
     by_cases hj:j<L
     ·have h3:=hall j hj
      have h4:listed[j]=true:=by simpa [Array.getD,h1]using h3
      rw[Array.getElem_append_left (by simpa using hj)];simp[h4]
     ·have h3:=hl j (by omega)
      have h4:listed[j]=false:=by simpa [Array.getD,h1]using h3
      rw[Array.getElem_append_right (by simpa using Nat.le_of_not_lt hj)];simp[h4]
   have hcount:ops.size-L≤fuel+1:=by
    rw[hle]at hf;simpa [List.filter_append]using hf
   subst hle;have:=hlast a w h (fuel+1-(ops.size-L))
   rwa [Nat.sub_add_cancel hcount]at this
  ·refine⟨fun hr=>?_,fun i hi=>?_⟩
   ·have:=hok.acyc listed hs hr
    exact absurd (fun j hj=>by subst this;simp[Array.getD];omega) hall
   ·rw[mem_ready]at hi
    obtain⟨hni,o,ho,hedges⟩:=hi;have hilt:i<listed.size:=by
     rcases Nat.lt_or_ge i listed.size with h | h
     ·exact h
     ·simp[Array.getD,Nat.not_lt.2 h]at hni
    have hiL:i<L:=by
     rcases Nat.lt_trichotomy i L with h1 | h1 | h1
     ·exact h1
     ·subst h1
      exact absurd (hcl listed hc (fun o' ho' e he hb=>by rw[ho]at ho';cases ho';exact hedges e (by simpa using he) hb)) hall
     ·obtain⟨e,he,hb,hle⟩:=htl i o h1 ho
      have h2:=hedges e (by simpa using he) hb;rw[hl _ hle]at h2;cases h2
    unfold wpOp;simp only[ho];have hmemo:o∈ops.toList:=List.mem_of_getElem? (by simpa using ho);have hw:Region.wanted o (yielded ops a.tmps)=true:=by simp[Region.wanted,hok.guard o hmemo]
    rw[if_pos hw];refine .inl (Oper.wp_mono ?_ (hop i o hiL ho a w h.ext h.other (fun e he hb oj hoj=>h.facts _ _ hoj (hedges e (by simpa using he) hb))));rintro a' w'⟨hE,v,rfl,hv⟩;have hfalse:listed[i]=false:=by simpa [Array.getD,hilt]using hni
    refine ih _ _ _ (by simp[hs]) ?_ ?_ ?_ (h.step hok hT hΦ ho hni hE v hv)
    ·intro j hj
     rw[Qf9 hilt,if_neg (by omega)];exact hl j hj
    ·intro j oj hoj hlj e he hb
     rw[Qf9 hilt]at hlj ⊢;by_cases hji:j=i
     ·subst hji
      rw[ho]at hoj;cases hoj;by_cases hee:e.on=j
      ·rw[if_pos hee]
      ·rw[if_neg hee];exact hedges e (by simpa using he) hb
     ·rw[if_neg hji]at hlj
      by_cases hee:e.on=i
      ·rw[if_pos hee]
      ·rw[if_neg hee];exact hc j oj hoj hlj e he hb
    ·have:=Qh9 listed.toList i (by simpa using hilt) (by simpa using hfalse)
     simp only[Array.toList_setIfInBounds];omega
theorem QbE{id:Nat}{a0:Act}{w0:World}(hm:P.follows .mixedOrders=true)(hokb:Qd3 ops a0.tmps.size=true)(L:Nat)(hL:L<ops.size)
  (hcl:∀listed:Array Bool,Qfi ops listed→(∀o,ops[L]? =some o→∀e∈o.after.toList,Region.binds .any e=true→listed.getD e.on false=true)→∀j,j<L→listed.getD j false=true)
  (htl:∀i o,L<i→ops[i]? =some o→∃e∈o.after.toList,Region.binds .any e=true∧L≤e.on)
  (E:World→World→Prop)(Φ:Nat→Value→World→Prop)(hE0:E w0 w0.drew)(hT:∀a b c,E a b→E b c→E a c)(hΦ:∀j v w w',E w w'→Φ j v w→Φ j v w')
  (hop:∀i o,i<L→ops[i]? =some o→OpDoes P ops Q a0 w0 E Φ i o)
  (hlast:∀a w,Facts ops a0 w0 E Φ (Array.replicate L true++Array.replicate (ops.size-L) false) a w→∀k,wpAny P .any ops Q (k+(ops.size-L)) (Array.replicate L true++Array.replicate (ops.size-L) false) a w):(Code.region id ops true).wp P Q a0 w0:=by
 refine wp_region_any hm (Qgi (Qfh hokb).1 hT hΦ L hL hcl htl hop hlast _ _ _ _ (by simp) ?_ ?_ (by simp) ?_)
 ·intro j hj;simp[Array.getD]
 ·intro j o _ hl;simp[Array.getD]at hl
 ·exact⟨hE0,rfl,rfl,fun _ _=>rfl,fun j o _ hl=>by simp[Array.getD]at hl⟩
theorem Qcu{k i:Nat}{listed:Array Bool}{o:Oper}{a:Act}{w:World}(hr:Region.ready .any ops listed=[i])(ho:ops[i]? =some o)(hg:o.guard=none)
  (h:o.wp P a w (wpAny P .any ops Q k (listed.setIfInBounds i true)) Q):wpAny P .any ops Q (k+1) listed a w:=by
 refine⟨fun h0=>(by rw[hr]at h0;cases h0),fun j hj=>?_⟩;rw[hr,List.mem_singleton]at hj;subst hj;unfold wpOp;simp only[ho];rw[if_pos (by simp[Region.wanted,hg])];exact .inl h
end
end Go.Proofs.Pg
namespace Go.Proofs.Pg
open Go.RowKit
attribute [local go_sem] Oper.semAt_some
theorem QdH{P:Program}(w:World)(base:Nat)(t ty e:TypeId)(i:TypeInfo)(z:Value)(size bytes:Nat)(ht:P.underlying t=some (.slice e))(hi:P.info? e=some i)(hz:i.zero=some z)
  (hsize:i.size=size)(hby:i.bytes=bytes)(hzs:z.cells.size=size)(hsz:0<size)(v:Value)(n:Nat)(xs:List Value)(hown:w.ownsRow base e size v n xs)
  (a:Addr)(m c:Nat)(news:List Value)(hl:news.length=m*size)(hnews:∀j u,news[j]? =some u→w.cell? (a.add j)=some u)(h1:∀u∈news,u.oneCell'=true)
  (h63:n+m≤maxLen)(hbytes:(n+m)*bytes≤140737488355328)(hbase:base≤w.heap.size) :
  ∃v' w',(Builtin.append_ #[t,t] ty #[v,.slice (some a) m c]).run P w=.ok v' w'∧w'.ownsRow base e size v' (n+m) (xs++news)∧w.grownBy w' v.ownBlock∧w'.ownsRow base e size v n xs∧(v'.ownBlock=v.ownBlock∨∀k,v'.ownBlock=some k→w.heap.size≤k) ∧
   ∀u,w.ownsRow base e size u (n+m) (xs++news)→w'.ownsRow base e size u (n+m) (xs++news):=by
 obtain⟨v',w',hr,h2,h3,h4,h5⟩:=Qcr (P:=P) w base t ty e i z size bytes ht hi hz hsize hby hzs hsz v n xs hown a m c news hl hnews h1 h63 hbytes hbase;refine⟨v',w',hr,h2,h3,h4,h5,fun u hu=>?_⟩;obtain⟨hu1,hu2⟩:=hu;refine⟨hu1,?_⟩;rcases hu2 with hu2 | ⟨g2,cap2,cur2,rfl,b1,b2,b3,b4,b5,b6⟩
 ·exact .inl hu2
 ·by_cases hg:v.ownBlock=some g2
  ·rcases hown.2 with⟨rfl,_⟩ | ⟨g,cap,cur,rfl,a1,a2,a3,a4,a5,a6⟩
   ·cases hg
   ·cases hg
    rw[a2]at b2;cases b2;by_cases hroom:n+m≤cap
    ·obtain⟨w2,hr2,k2,_⟩:=run_append_own_spare (P:=P) w base t ty e i size ht hi hsize g n cap xs hown a m c news hl hnews h1 hroom
     rw[hr]at hr2;cases hr2;rcases k2.2 with⟨h,_⟩ | ⟨g3,cap3,cur3,hv,c1,c2,c3,c4,c5,c6⟩
     ·cases h
     ·cases hv
      exact .inr ⟨g,cap2,cur3,rfl,c1,c2,b3,b4,by rw[c5,←a5,b5],c6⟩
    ·subst hsize
     subst hby
     have holds:∀j u,xs[j]? =some u→w.cell? ((⟨g,0,none⟩:Addr).add j)=some u:=hown.cells (g:=g) rfl
     have hr2:=run_append_grow (P:=P) w t ty e i z ht hi hz ⟨g,0,none⟩ n cap xs hown.1 holds a m c news hl hnews (by omega) (by simp only[maxLen]at h63;omega) (growslice_fits (by omega) hbytes);rw[hr]at hr2;cases hr2;exact .inr ⟨g,cap2,cur2,rfl,b1,Qaf (w:=w.drew) a2 _,b3,b4,b5,b6⟩
  ·exact .inr ⟨g2,cap2,cur2,rfl,b1,(h3.block _ (Qad b2) (fun e=>hg e.symm)).trans b2,b3,b4,b5,b6⟩
theorem QcX{P:Program}{o:Oper}{a:Act}{w:World}{K:Act→World→Prop}{Q:Exit→Act→World→Prop}{T Te:TypeId}{z:Value}{sz by':Nat}(hT:SlT P T Te z sz by')
  (s xo:Operand)(ho:o.op=.call {callee:=.builtin .append,args:=#[s,xo],argTypes:=#[T,T]})(base:Nat)(v:Value)(n:Nat)(xs:List Value)(hs:a.eval s=v)(hown:w.ownsRow base Te sz v n xs)
  (blk:Nat)(news:List Value)(hl:news.length=1*sz)(hx:a.eval xo=.slice (some ⟨blk,0,none⟩) 1 1)(hc:∀j u,news[j]? =some u→w.cell? ⟨blk,j,none⟩=some u)(h1:∀v∈news,v.oneCell'=true)(hm:n+1≤maxLen)(hn:(n+1)*by'≤140737488355328)(hbase:base≤w.heap.size)
  (hK:∀v' w',w'.ownsRow base Te sz v' (n+1) (xs++news)→w.grownBy w' v.ownBlock→w'.ownsRow base Te sz v n xs→(v'.ownBlock=v.ownBlock∨∀k,v'.ownBlock=some k→w.heap.size≤k)→(∀u,w.ownsRow base Te sz u (n+1) (xs++news)→w'.ownsRow base Te sz u (n+1) (xs++news))→K (a.put o.dst v') w') :
  o.wp P a w K Q:=by
 obtain⟨i0,hi,hz0,hz1,hz2⟩:=hT.i;obtain⟨v',w',hrun,r1,r2,r3,r4,r5⟩:=QdH (P:=P) w base T o.type Te i0 z sz by' hT.hu hi hz0 hz1 hz2 hT.zs hT.pos v n xs hown ⟨blk,0,none⟩ 1 1 news hl (fun j u hj=>by
  have:=hc j u hj;by_cases h0:j=0
  ·subst h0;simpa [Addr.add]using this
  ·simpa [Addr.add,h0]using this) h1 hm hn hbase
 unfold Oper.wp;simp[execOp,ho,resolve,invoke,builtin,hs,hx,hrun,Result.andThen];exact hK v' w' r1 r2 r3 r4 r5
structure RE(vA vB:Value)(B n:Nat)(xA nA xB nB:List Value)(w w':World):Prop where
 ext:Ext (fun d=>vA.ownBlock=some d∨vB.ownBlock=some d) w w'
 a0:w.ownsRow B 9 1 vA n xA→w'.ownsRow B 9 1 vA n xA
 a1:∀v,w.ownsRow B 9 1 v (n+1) (xA++nA)→w'.ownsRow B 9 1 v (n+1) (xA++nA)
 b0:w.ownsRow B 33 11 vB n xB→w'.ownsRow B 33 11 vB n xB
 b1:∀v,w.ownsRow B 33 11 v (n+1) (xB++nB)→w'.ownsRow B 33 11 v (n+1) (xB++nB)
section
variable {vA vB:Value}{B n:Nat}{xA nA xB nB:List Value}{w w' w'':World}
theorem RE.trans(h:RE vA vB B n xA nA xB nB w w')(k:RE vA vB B n xA nA xB nB w' w''):RE vA vB B n xA nA xB nB w w'' :=
 ⟨h.ext.trans k.ext,fun x=>k.a0 (h.a0 x),fun v x=>k.a1 v (h.a1 v x),fun x=>k.b0 (h.b0 x),fun v x=>k.b1 v (h.b1 v x)⟩
theorem RE.refl:RE vA vB B n xA nA xB nB w w:=⟨.refl _ _,id,fun _ h=>h,id,fun _ h=>h⟩
theorem RE.drew:RE vA vB B n xA nA xB nB w w.drew:=⟨(Ext.refl _ _).drew,id,fun _ h=>h,id,fun _ h=>h⟩
theorem RE.alloc(o:Obj):RE vA vB B n xA nA xB nB w (w.alloc o):=⟨(Ext.refl _ _).alloc o,fun h=>Qbs h o,fun _ h=>Qbs h o,fun h=>Qbs h o,fun _ h=>Qbs h o⟩
theorem RE.growA(ho:w.ownsRow B 9 1 vA n xA)(hg:w.grownBy w' vA.ownBlock)(h0:w'.ownsRow B 9 1 vA n xA)(h1:∀v,w.ownsRow B 9 1 v (n+1) (xA++nA)→w'.ownsRow B 9 1 v (n+1) (xA++nA)):RE vA vB B n xA nA xB nB w w' :=
 ⟨(QaF hg).mono (fun _ h=>.inl h),fun _=>h0,h1,fun h=>QbD h ho hg (by decide),fun _ h=>QbD h ho hg (by decide)⟩
theorem RE.growB(ho:w.ownsRow B 33 11 vB n xB)(hg:w.grownBy w' vB.ownBlock)(h0:w'.ownsRow B 33 11 vB n xB)(h1:∀v,w.ownsRow B 33 11 v (n+1) (xB++nB)→w'.ownsRow B 33 11 v (n+1) (xB++nB)):RE vA vB B n xA nA xB nB w w' :=
 ⟨(QaF hg).mono (fun _ h=>.inr h),fun h=>QbD h ho hg (by decide),fun _ h=>QbD h ho hg (by decide),fun _=>h0,h1⟩
end
theorem Qe8(w:World)(b:Nat):(Instr.fieldAt 33 (.pointer (some ⟨b,0,none⟩)) 3).run Tryz.prog w=.ok (.pointer (some ⟨b,8,none⟩)) w:=by kernel_rfl
theorem Qe9(w:World)(b:Nat):(Instr.fieldAt 33 (.pointer (some ⟨b,0,none⟩)) 5).run Tryz.prog w=.ok (.pointer (some ⟨b,10,none⟩)) w:=by kernel_rfl
theorem Qgj(w:World)(b:Nat):(Instr.fieldAt 221 (.pointer (some ⟨b,0,none⟩)) 0).run Tryz.prog w=.ok (.pointer (some ⟨b,0,none⟩)) w:=by kernel_rfl
theorem ld27(w:World)(b o:Nat)(p:Option Addr)(n c:Nat)(h:w.cell? ⟨b,o,none⟩=some (.slice p n c)):(Instr.loadAt 27 (.pointer (some ⟨b,o,none⟩))).run Tryz.prog w=.ok (.slice p n c) w:=by go_simp
theorem ld31(w:World)(b o:Nat)(p:Option Addr)(n c:Nat)(h:w.cell? ⟨b,o,none⟩=some (.slice p n c)):(Instr.loadAt 31 (.pointer (some ⟨b,o,none⟩))).run Tryz.prog w=.ok (.slice p n c) w:=by go_simp
theorem ld131(w:World)(b o:Nat)(s:ByteArray)(h:w.cell? ⟨b,o,none⟩=some (.string s)):(Instr.loadAt 131 (.pointer (some ⟨b,o,none⟩))).run Tryz.prog w=.ok (.string s) w:=by go_simp
theorem ld33(w:World)(b:Nat)(op:Int)(s:ByteArray)(kd nn:Int)(vs vt:ByteArray)(pk:Option Addr)(nk ck:Nat)(pp:Option Addr)(np cp:Nat)(pl:Option Addr)(nl cl:Nat)
  (h:w.heap[b]? =some (.cells (xCells op s kd nn vs vt (.slice pk nk ck) (.slice pp np cp) (.slice pl nl cl)) 33 (0,0))):(Instr.loadAt 33 (.pointer (some ⟨b,0,none⟩))).run Tryz.prog w=.ok (.agg (xCells op s kd nn vs vt (.slice pk nk ck) (.slice pp np cp) (.slice pl nl cl))) w:=by
 obtain⟨h0,h1,h2,h3,h4,h5,h6,h7,h8,h9,h10⟩:=Cl11 h rfl rfl rfl rfl rfl rfl rfl rfl rfl rfl rfl;go_simp
theorem st27(w:World)(b o:Nat)(p:Option Addr)(n c:Nat)(u:Value)(h:w.cell? ⟨b,o,none⟩=some u)(hf:w.frozen? ⟨b,o,none⟩=false):(Instr.storeAt 27 (.pointer (some ⟨b,o,none⟩)) (.slice p n c)).run Tryz.prog w=.ok () (w.setCell ⟨b,o,none⟩ (.slice p n c)):=by go_simp
theorem st31(w:World)(b o:Nat)(p:Option Addr)(n c:Nat)(u:Value)(h:w.cell? ⟨b,o,none⟩=some u)(hf:w.frozen? ⟨b,o,none⟩=false):(Instr.storeAt 31 (.pointer (some ⟨b,o,none⟩)) (.slice p n c)).run Tryz.prog w=.ok () (w.setCell ⟨b,o,none⟩ (.slice p n c)):=by go_simp
theorem wpo_bs27{o:Oper}{a:Act}{w:World}{K:Act→World→Prop}{Q:Exit→Act→World→Prop}(x:Tmp)(ho:o.op=.buildSlice 27 1 #[(0,.tmp x)])(s:ByteArray)(hx:a.eval (.tmp x)=.string s)(h:K (a.put o.dst (.slice (some ⟨w.heap.size,0,none⟩) 1 1)) (w.alloc (.cells #[.string s] 9))):o.wp Tryz.prog a w K Q:=by
 have hx':a.tmps[x]?.getD undef=.string s:=by simpa [Act.eval]using hx
 unfold Oper.wp;simp only[execOp,ho];go_simp;exact h
theorem wpo_bs31{o:Oper}{a:Act}{w:World}{K:Act→World→Prop}{Q:Exit→Act→World→Prop}(x:Tmp)(ho:o.op=.buildSlice 31 1 #[(0,.tmp x)])(op:Int)(s:ByteArray)(kd nn:Int)(vs vt:ByteArray)(pk:Option Addr)(nk ck:Nat)(pp:Option Addr)(np cp:Nat)(pl:Option Addr)(nl cl:Nat)
  (hx:a.eval (.tmp x)=.agg (xCells op s kd nn vs vt (.slice pk nk ck) (.slice pp np cp) (.slice pl nl cl)))(h:K (a.put o.dst (.slice (some ⟨w.heap.size,0,none⟩) 1 1)) (w.alloc (.cells (xCells op s kd nn vs vt (.slice pk nk ck) (.slice pp np cp) (.slice pl nl cl)) 33))):o.wp Tryz.prog a w K Q:=by
 have hx':a.tmps[x]?.getD undef=.agg (xCells op s kd nn vs vt (.slice pk nk ck) (.slice pp np cp) (.slice pl nl cl)):=by simpa [Act.eval]using hx
 unfold Oper.wp;simp only[execOp,ho];go_simp;exact h
end Go.Proofs.Pg
