/- FnComma: a last comma changes nothing; for every world. Part 21. -/
import Derived.Test.YtmhjkkkhdlnngaaGreatDoorZ20
import Derived.Deep.RegionWith
import Derived.Deep.RegionHeld3
set_option linter.all false
set_option maxRecDepth 100000
set_option maxHeartbeats 40000000
namespace Go.Proofs.Pg
open Go.RowKit
attribute [local go_sem] Oper.semAt_some
def PairsIs(w:World)(lo:Nat)(cells:List Value)(l:List (ByteArray×Ex)):Prop :=
 cells.length=l.length*2∧∀(i:Nat)(a:ByteArray×Ex),l[i]? =some a→cells[i*2]? =some (.string a.1)∧∃(T:TypeId)(v:Value),cells[i*2+1]? =some (Value.iface T v)∧NodeIs w lo (.iface T v) a.2
theorem PairsIs.nil{w:World}{lo:Nat}:PairsIs w lo [] []:=⟨rfl,fun i a h=>by simp at h⟩
theorem PairsIs.extG{w w':World}{lo:Nat}{S:Nat→Prop}{vals:List Value}{l:List (ByteArray×Ex)}(h:PairsIs w lo vals l)(he:Ext S w w')(hs:∀d,S d→∀T c fr,w.heap[d]? =some (.cells c T fr)→T≠136∧T≠221∧T≠316):PairsIs w' lo vals l :=
 ⟨h.1,fun i a hi=>by obtain⟨h0,T,v,h1,h2⟩:=h.2 i a hi;exact⟨h0,T,v,h1,h2.extG he hs⟩⟩
theorem PairsIs.ext{w w':World}{lo:Nat}{S:Nat→Prop}{vals:List Value}{l:List (ByteArray×Ex)}(h:PairsIs w lo vals l)(he:Ext S w w')(hs:∀d,S d→Soft w lo d):PairsIs w' lo vals l :=
 ⟨h.1,fun i a hi=>by obtain⟨h0,T,v,h1,h2⟩:=h.2 i a hi;exact⟨h0,T,v,h1,h2.ext he hs⟩⟩
theorem PairsIs.keep{w w':World}{lo:Nat}{S:Nat→Prop}{vals:List Value}{l:List (ByteArray×Ex)}(h:PairsIs w lo vals l)(he:Ext S w w')(hs:∀d,S d→d<lo):PairsIs w' lo vals l:=h.ext he (fun d hd=>.inl (hs d hd))
theorem PairsIs.later{w w':World}{lo:Nat}{vals:List Value}{l:List (ByteArray×Ex)}(h:PairsIs w lo vals l)(hb:Below w.heap.size w w'):PairsIs w' lo vals l:=h.ext (S:=fun _=>False) (.below hb) (fun _ k=>k.elim)
theorem PairsIs.grow{w w':World}{lo:Nat}{vals:List Value}{l:List (ByteArray×Ex)}{base:Nat}{e:TypeId}{size:Nat}{v:Value}{n:Nat}{xs:List Value}(h:PairsIs w lo vals l)(ho:w.ownsRow base e size v n xs)(hg:w.grownBy w' v.ownBlock)(he:e≠136∧e≠221∧e≠316):PairsIs w' lo vals l :=
 ⟨h.1,fun i a hi=>by obtain⟨h0,T,v,h1,h2⟩:=h.2 i a hi;exact⟨h0,T,v,h1,h2.grow ho hg he⟩⟩
theorem PairsIs.snoc{w:World}{lo:Nat}{vals:List Value}{l:List (ByteArray×Ex)}{k:ByteArray}{T:TypeId}{v:Value}{x:Ex}(h:PairsIs w lo vals l)(hx:NodeIs w lo (.iface T v) x):PairsIs w lo (vals++[.string k,.iface T v]) (l++[(k,x)]):=by
 obtain⟨hlen,h⟩:=h;refine⟨by simp[hlen];omega,fun i a hi=>?_⟩;by_cases hl:i<l.length
 ·rw[List.getElem?_append_left hl]at hi
  obtain⟨h0,T,v,h1,h2⟩:=h i a hi;exact⟨by rw[List.getElem?_append_left (by omega)];exact h0,T,v,by rw[List.getElem?_append_left (by omega)];exact h1,h2⟩
 ·rw[List.getElem?_append_right (by omega)]at hi
  have h0:i=l.length:=by
   rcases Nat.eq_zero_or_pos (i-l.length)with h | h
   ·omega
   ·rw[List.getElem?_eq_none (by simp only[List.length_singleton];omega)]at hi;cases hi
  subst h0;simp at hi;subst hi;refine⟨?_,T,v,?_,hx⟩
  ·rw[List.getElem?_append_right (by omega),show l.length*2-vals.length=0 by omega];rfl
  ·rw[List.getElem?_append_right (by omega),show l.length*2+1-vals.length=1 by omega];rfl
theorem Qc6{w:World}{B n:Nat}{e:TypeId}{s:Value}{vals:List Value}(h:w.ownsRow B e 2 s n vals) :
  (n=0∧s=.slice none 0 0)∨∃g cap c,s=.slice (some ⟨g,0,none⟩) n cap∧B≤g∧w.heap[g]? =some (.cells c e (0,0))∧n≤cap∧cap≤maxLen∧∀i,i<n*2→c[i]? =vals[i]? := by
 obtain⟨h1,h2⟩:=h;rcases h2 with⟨h,h0⟩ | ⟨g,cap,cur,a,b,c,d,e,f,k⟩
 ·exact .inl ⟨h0,h⟩
 ·refine .inr ⟨g,cap,cur,a,b,c,d,e,fun i hi=>?_⟩
  have hk:(cur.toList.take (n*2))[i]? =vals[i]? := by rw[k]
  rw[List.getElem?_take_of_lt (by omega)]at hk;simpa using hk
def mp(l:List (ByteArray×Ex))(i:Nat):List (ByteArray×Value):=(List.range i).map fun j=>((l.getD j (⟨#[]⟩,.set [])).1,.int .i64 (j:Int))
theorem mp_succ(l:List (ByteArray×Ex))(i:Nat):mp l (i+1)=mp l i++[((l.getD i (⟨#[]⟩,.set [])).1,.int .i64 (i:Int))]:=by simp[mp,List.range_succ]
def Distinct(l:List (ByteArray×Ex)):Prop:=∀i j:Nat,j<i→i<l.length→((l.getD i (⟨#[]⟩,.set [])).1.toList==(l.getD j (⟨#[]⟩,.set [])).1.toList)=false
theorem mp_find{l:List (ByteArray×Ex)}(h:Distinct l){i:Nat}(hi:i<l.length):(mp l i).find? (fun p=>(l.getD i (⟨#[]⟩,.set [])).1.toList==p.1.toList)=none:=by
 rw[List.find?_eq_none];intro p hp;simp only[mp,List.mem_map,List.mem_range]at hp;obtain⟨j,hj,rfl⟩:=hp;simp only[h i j hj hi];decide
theorem take_two{α:Type}{l:List α}{i:Nat}{a b:α}(h0:l[i]? =some a)(h1:l[i+1]? =some b):l.take (i+2)=l.take i++[a,b]:=by
 have e1:l.take (i+1)=l.take i++[a]:=by rw[List.take_succ,h0];rfl
 have e2:l.take (i+1+1)=l.take (i+1)++[b]:=by rw[List.take_succ,h1];rfl
 rw[show i+2=i+1+1 by rfl,e2,e1,List.append_assoc];rfl
def RcRel(w:World)(n:Nat)(l:List (ByteArray×Ex))(cells:List Value)(s:Value)(wr:World):Prop :=
 ∃(i:Nat)(rv:Value),s=.int .i64 (i:Int)∧i≤n∧wr.heap[w.heap.size]? =some (.cells #[.nilIface] 299 (0,0))∧wr.heap[w.heap.size+1]? =some (.cells #[rv] 219 (0,0))∧wr.ownsRow (w.heap.size+1+1+1) 221 2 rv i (cells.take (i*2))∧Qb0 wr (w.heap.size+1+1) (mp l i)∧Below w.heap.size w wr
theorem record_c{w:World}{base B:Nat}{s:Value}{cells:List Value}{l:List (ByteArray×Ex)}(hbs:base≤w.heap.size)(ho:w.ownsRow B 439 2 s l.length cells)(hc:PairsIs w base cells l)(hd:Distinct l)(hl:l.length≤1000000):Calls Tryz.prog 305 #[s] w (Qet base w (.recd l)):=by
 obtain⟨n,hn⟩:∃n,n=l.length:=⟨_,rfl⟩
 obtain⟨p,cap,rfl,hrow⟩:∃p cap,s=.slice p n cap∧(n=0∨∃g c,p=some ⟨g,0,none⟩∧w.heap[g]? =some (.cells c 439 (0,0))∧n≤cap∧∀i,i<n*2→c[i]? =cells[i]?):=by
  rcases Qc6 ho with⟨h1,h2⟩ | ⟨g,cap,c,h1,_,h2,h3,_,h4⟩
  ·exact⟨none,0,by rw[h2,hn,h1],.inl (by omega)⟩
  ·exact⟨_,cap,by rw[hn];exact h1,.inr ⟨g,c,rfl,h2,by omega,by rw[hn];exact h4⟩⟩
 have hln:n≤1000000:=by omega
 have ht:Tryz.prog.underlying 441=some (.map 131 3):=by kernel_rfl
 have hkt:Tryz.prog.underlying 131=some .string:=by kernel_rfl
 have hz:∀w,(zeroValue 3).run Tryz.prog w=.ok (.int .i64 0) w:=fun w=>by kernel_rfl
 have hmk:∀(k:Int)(w:World),(Instr.makeMap 441 (some (.int .i64 k))).run Tryz.prog w=.ok (.map (some w.heap.size)) (w.alloc (.map #[] 0)):=fun k w=>by kernel_rfl
 have HN:=Hi hn;clear ho hn hl;go_enter Tryz.func305,Tryz.ntmps305
 go_upto_region 3 with(fail)
 obtain⟨w1,hw⟩:∃w1,((w.alloc (.cells #[.nilIface] 299)).alloc (.cells #[.slice none 0 0] 219)).alloc (.map #[] 0)=w1:=⟨_,rfl⟩
 rw[hw];have hb:Below w.heap.size w w1:=by rw[←hw];exact((Qab w _).alloc (by simp) _).alloc (by simp;omega) _
 have hR1:w1.heap[w.heap.size]? =some (.cells #[.nilIface] 299 (0,0)):=by rw[←hw];exact Qaf (Qaf (heap_alloc_new _ _) _) _
 have hE1:w1.heap[w.heap.size+1]? =some (.cells #[.slice none 0 0] 219 (0,0)):=by rw[←hw];exact Qaf (Qah (by simp) _) _
 have hM1:Qb0 w1 (w.heap.size+1+1) (mp l 0):=by rw[←hw];exact Qah (by simp) _
 clear hw hmk
 go_upto_region 4 with(fail)
 go_loopw [14] (fun s wr=>RcRel w n l cells s wr) (fun s _=>(n-intOf s).toNat)
 case atStart=>exact⟨0,_,rfl,by omega,hR1,hE1,⟨by simp,.inl ⟨rfl,rfl⟩⟩,hM1,hb⟩
 case round =>
  clear hR1 hE1 hM1 hb;obtain⟨wo,rfl⟩:∃wo:World,wo=wr:=⟨_,rfl⟩
  obtain⟨i,rv,rfl,hi,hRo,hEo,hOo,hMo,hbl⟩:=hrel;have hso:=hbl.size;have hlM:=Qad hMo;by_cases hin:i<n
  ·obtain⟨g,c,rfl,hg,hcap,hcc⟩:=hrow.resolve_left (by omega)
   have hil:i<l.length:=by rw[←HN.out];exact hin
   obtain⟨a,hk⟩:∃a,l[i]? =some a:=⟨l[i],by simp[hil]⟩
   have hga:l.getD i (⟨#[]⟩,.set [])=a:=by simp[List.getD,hk]
   obtain⟨k,x⟩:=a;obtain⟨h0,T,v,h1,hv⟩:=hc.2 i _ hk;simp only at h0;obtain⟨pr,cr,rfl⟩:∃pr cr,rv=.slice pr i cr:=by
    rcases Qc6 hOo with⟨h1,h2⟩ | ⟨g,cap,c,h1,_⟩
    ·exact⟨none,0,by rw[h2,h1]⟩
    ·exact⟨_,_,h1⟩
   have hlg:=Qad hg;have q0:wo.cell? ⟨g,i*2,none⟩=some (.string k):=Qaa ((hbl.block _ hlg).trans hg) ((hcc _ (by omega)).trans h0);have q1:wo.cell? ⟨g,i*2+1,none⟩=some (.iface T v):=Qaa ((hbl.block _ hlg).trans hg) ((hcc _ (by omega)).trans h1);have htk:cells.take ((i+1)*2)=cells.take (i*2)++[.string k,.iface T v]:=by rw[Nat.add_mul];exact take_two h0 h1
   have HTK:=Hi htk;have hfn:=mp_find hd hil;rw[hga]at hfn;have HFN:=Hi hfn;clear hrow hcc h0 h1 hg htk hfn
   go_upto_region 6 with(fail)
   obtain⟨w2,hw⟩:∃w2,wo.alloc (.cells #[.string k,.iface T v] 439)=w2:=⟨_,rfl⟩
   rw[hw];have hb2:Below wo.heap.size wo w2:=by rw[←hw];exact Qab _ _
   have hx2:w2.heap[wo.heap.size]? =some (.cells #[.string k,.iface T v] 439 (0,0)):=by rw[←hw];exact heap_alloc_new _ _
   have hsz:wo.heap.size+1≤w2.heap.size:=by rw[←hw];simp
   have hR2:=Bk hb2 hRo;have hE2:=Bk hb2 hEo;have hM2:Qb0 w2 (w.heap.size+1+1) (mp l i):=(hb2.block _ hlM).trans hMo;have hO2:=Qaj (S:=fun _=>False) hOo (.below hb2) (fun _ h=>h.elim);have hbl2:Below w.heap.size w w2:=hbl.trans (hb2.mono hso);clear hw hRo hEo hMo hOo hbl q0 q1;have hlk:=Qdh ht hkt (hz w2) hM2 k;rw[HFN.out]at hlk;simp only at hlk;obtain⟨w3,hw3⟩:∃w3,w3=setMap w2 (w.heap.size+1+1) (entv (mp l i++[(k,.int .i64 (i:Int))]) 0).toArray (mp l i++[(k,Value.int .i64 (i:Int))]).length:=⟨_,rfl⟩
   have hins:(Instr.mapUpdate 441 (.map (some (w.heap.size+1+1))) (.string k) (.int .i64 (i:Int))).run Tryz.prog w2=.ok () w3:=by rw[hw3];exact QeV ht hkt hM2 k _ HFN.out
   have k0:w2.cell? ⟨wo.heap.size,0,none⟩=some (.string k):=Qaa hx2 rfl;have k1:w2.cell? ⟨wo.heap.size,1,none⟩=some (.iface T v):=Qaa hx2 rfl;have e0:w2.cell? ⟨w.heap.size+1,0,none⟩=some (.slice pr i cr):=Qaa hE2 rfl;have hM3:Qb0 w3 (w.heap.size+1+1) (mp l (i+1)):=by
    rw[hw3,mp_succ,hga];exact Qc5 hM2 _ _
   have hR3:w3.heap[w.heap.size]? =some (.cells #[.nilIface] 299 (0,0)):=by rw[hw3];exact Qcm hR2 (by omega) _ _
   have hE3:w3.heap[w.heap.size+1]? =some (.cells #[.slice pr i cr] 219 (0,0)):=by rw[hw3];exact Qcm hE2 (by omega) _ _
   have hx3:w3.heap[wo.heap.size]? =some (.cells #[.string k,.iface T v] 439 (0,0)):=by rw[hw3];exact Qcm hx2 (by omega) _ _
   have hX3:Ext (·=w.heap.size+1+1) w2 w3:=by rw[hw3];exact(Ext.refl (·=w.heap.size+1+1) _).setMap (.inl rfl) _ _
   have hO3:=Qcc hO2 hX3 (fun d hd c fr h=>by subst hd;have h2:=hM2;unfold Qb0 at h2;rw[h]at h2;cases h2);have hbl3:Below w.heap.size w w3:=by rw[hw3];exact((Ext.below (S:=fun _=>False) hbl2).setMap (.inr (by omega)) _ _).toBelow (fun _ h=>h.elim) (Nat.le_refl _)
   have hs3:w2.heap.size≤w3.heap.size:=hX3.size;have HH2:=Hi hM2;clear hw3 hR2 hE2 hx2 hX3 hO2 hbl2 hM2 hb2
   go_upto_region 10 with(fail)
   clear hlk hins k0 k1 e0;have k0:w3.cell? ⟨wo.heap.size,0,none⟩=some (.string k):=Qaa hx3 rfl;have k1:w3.cell? ⟨wo.heap.size,1,none⟩=some (.iface T v):=Qaa hx3 rfl;have e0:w3.cell? ⟨w.heap.size+1,0,none⟩=some (.slice pr i cr):=Qaa hE3 rfl;have hb4:=Qab w3 (.cells #[.string k,.iface T v] 221);have n0:∀j u,[Value.string k,Value.iface T v][j]? =some u→(w3.alloc (.cells #[.string k,.iface T v] 221)).cell? ⟨w3.heap.size,j,none⟩=some u:=by
    intro j u hj;exact Qaa (heap_alloc_new _ _) (by simpa using hj)
   have hO4:=Qaj (S:=fun _=>False) hO3 (.below hb4) (fun _ h=>h.elim);have hR4:=Qaf hR3 (.cells #[.string k,.iface T v] 221);have hE4:=Qaf hE3 (.cells #[.string k,.iface T v] 221);have hM4:(w3.alloc (.cells #[.string k,.iface T v] 221)).heap[w.heap.size+1+1]? =some _:=Qaf hM3 (.cells #[.string k,.iface T v] 221);have hbl4:=hbl3.alloc (by omega) (.cells #[.string k,.iface T v] 221);clear hO3 hR3 hE3 hM3 hbl3 hx3
   go_wp2_with(at_builtin;refine appG sl217 rfl _ _ rfl (w.heap.size+1+1+1) _ _ _ rfl hO4 _ [.string k,.iface T v] rfl rfl n0 (fun v hv=>by simp at hv;rcases hv with rfl | rfl<;>rfl) (by unfold maxLen;omega) (by omega) (by simp;omega) ?_)
   intro v9 w9 hO9 hg9 _;have hR9:=QaL hR4 hO4 hg9 (by omega);have hE9:=QaL hE4 hO4 hg9 (by omega);have hM9:=QaL hM4 hO4 hg9 (by omega);have hX9:=(Ext.below (S:=fun _=>False) hbl4).grow hO4 hg9 (by omega);have e9:w9.cell? ⟨w.heap.size+1,0,none⟩=some (.slice pr i cr):=Qaa hE9 rfl;have f9:w9.frozen? ⟨w.heap.size+1,0,none⟩=false:=Qae hE9 0;rw[←HTK.out]at hO9;obtain⟨p9,c9,rfl⟩:∃p9 c9,v9=.slice p9 (i+1) c9:=by
    rcases Qc6 hO9 with⟨h1,h2⟩ | ⟨g,cap,c,h1,_⟩
    ·omega
    ·exact⟨_,_,h1⟩
   have HA:=Hi hR9;have HB:=Hi hE9;have HC2:=Hi hM9;clear hO4 hR4 hE4 hM4 hbl4 hR9 hE9 hM9 hg9 k0 k1 e0 n0 hb4;go_wp2;go_roundw
   case rel=>exact⟨i+1,_,rfl,by omega,Qag HA.out (by omega) _,Qac (o:=0) HB.out _,Qdo hO9 HB.out (by decide) _,Qag HC2.out (by omega) _,(hX9.set (p:=⟨w.heap.size+1,0,none⟩) (.inr (show _≤w.heap.size+1 by omega)) _).toBelow (fun _ h=>h.elim) (Nat.le_refl _)⟩
   case measure=>simp[intOf];omega
  ·obtain rfl:i=n:=by omega
   obtain⟨p2,c2,rfl,hrow2⟩:∃p2 c2,rv=.slice p2 i c2∧Row2At wo base 221 p2 i (fun j=>.string (l.getD j (⟨#[]⟩,.set [])).1) (fun j=>cells.getD (j*2+1) .nilIface):=by
    rcases Qc6 hOo with⟨h1,h2⟩ | ⟨g,cap,c,h1,hge,hg,_,_,hcc⟩
    ·exact⟨none,0,by rw[h2,h1],.inl h1⟩
    ·refine⟨_,_,h1,.inr ⟨g,0,c,_,rfl,by omega,hg,fun j hj=>?_⟩⟩
     obtain⟨a,hk⟩:∃a,l[j]? =some a:=⟨l[j]'(by rw[←HN.out];exact hj),by simp[←HN.out,hj]⟩
     obtain⟨h0,T,v,h1,hv⟩:=hc.2 j _ hk;rw[Nat.zero_add,hcc _ (by omega),hcc _ (by omega),List.getElem?_take_of_lt (by omega),List.getElem?_take_of_lt (by omega)];exact⟨by rw[h0];simp[List.getD,hk],by simp[List.getD,h1]⟩
   have hS:NodeIs wo base (.iface 219 (.agg #[.slice p2 i c2])) (.recd l):=by
    have hi2:=HN.out;rw[hi2]at hrow2 ⊢;refine .recd l _ _ _ hrow2 (fun j a hj=>?_);obtain⟨h0,T,v,h1,hv⟩:=(hc.later hbl).2 j _ hj;rw[show cells.getD (j*2+1) .nilIface=.iface T v by simp[List.getD,h1]];exact hv
   have e0:wo.cell? ⟨w.heap.size+1,0,none⟩=some (.slice p2 i c2):=Qaa hEo rfl;have HS:=Hi hS;have HR:=Hi hRo;clear hEo hOo hMo hS hRo hrow2 hrow
   go_wp2_with fail
   refine(Qar _ _ _).mono ?_;rintro e w2⟨rfl,hb⟩;obtain⟨z1,z2,z3⟩:=Qan hb HR.out;have hE:=Qap (w:=w) (R:=w.heap.size) (v:=.iface 219 (.agg #[.slice p2 i c2])) (Ext.below hbl) hb (by omega);have HE:=Hi (And.intro hE ((HS.out.later hb).store (o:=0) z3.out (by decide) (.iface 219 (.agg #[.slice p2 i c2]))));clear hb hE e0;go_wp2;exact Qaq (R:=w.heap.size) _ 2 (by kernel_rfl) rfl rfl (Qac (o:=0) z3.out _) ⟨HE.out.1,_,_,rfl,HE.out.2⟩
theorem MsIs.ext{S:Nat→Prop}{w w':World}{B bx:Nat}{keys:List ByteArray}(h:MsIs w B bx keys)(he:Ext S w w')(hs:∀d,S d→d≠bx∧d<B):MsIs w' B bx keys:=by
 rcases h with⟨h1,h2⟩ | ⟨b,h1,h2,h3⟩
 ·exact .inl ⟨h1,he.heap (fun h=>(hs _ h).1 rfl) h2⟩
 ·exact .inr ⟨b,he.heap (fun h=>(hs _ h).1 rfl) h1,h2,he.heap (fun h=>by have:=(hs _ h).2;omega) h3⟩
theorem MsIs.later{w w':World}{B bx:Nat}{keys:List ByteArray}(h:MsIs w B bx keys)(hb:Below w.heap.size w w'):MsIs w' B bx keys:=h.ext (S:=fun _=>False) (.below hb) (fun _ k=>k.elim)
theorem MsIs.grow{w w':World}{B bx:Nat}{keys:List ByteArray}{base:Nat}{e:TypeId}{size:Nat}{v:Value}{n:Nat}{xs:List Value}(h:MsIs w B bx keys)(ho:w.ownsRow base e size v n xs)(hg:w.grownBy w' v.ownBlock)(hT:283≠e):MsIs w' B bx keys:=by
 rcases h with⟨h1,h2⟩ | ⟨b,h1,h2,h3⟩
 ·exact .inl ⟨h1,QaR h2 ho hg hT⟩
 ·exact .inr ⟨b,QaR h1 ho hg hT,h2,(hg.block b (Qad h3) (fun q=>by obtain⟨_,c',hc⟩:=Qa5 ho q.symm;unfold Qb0 at h3;rw[h3]at hc;cases hc)).trans h3⟩
theorem Qbw{B bx:Nat}{w:World}(hx:∃v,w.heap[bx]? =some (.cells #[v] 283 (0,0))){d:Nat}(hd:SM B bx w d){T:TypeId}{c:Array Value}{fr:Nat×Nat}(h:w.heap[d]? =some (.cells c T fr)):T=283:=by
 obtain⟨v,hx⟩:=hx;rcases hd with rfl | ⟨_,es,k,hm⟩
 ·rw[hx]at h;cases h;rfl
 ·rw[hm]at h;cases h
theorem MsIs.box{w:World}{B bx:Nat}{keys:List ByteArray}(h:MsIs w B bx keys):∃v,w.heap[bx]? =some (.cells #[v] 283 (0,0)):=by obtain⟨v,h,_⟩:=h.val;exact⟨v,h⟩
theorem QgS(l:List (ByteArray×Ex))(k:ByteArray):((l.map (·.1)).any fun x=>k.toList==x.toList)=l.any fun p=>p.1.toList==k.toList:=by
 rw[List.any_map]
 congr 1
 funext p
 show(k.toList==p.1.toList)=(p.1.toList==k.toList);exact Bool.beq_comm
theorem Distinct.snoc{l:List (ByteArray×Ex)}{k:ByteArray}{x:Ex}(h:Distinct l)(hn:(l.any fun p=>p.1.toList==k.toList)=false):Distinct (l++[(k,x)]):=by
 intro i j hj hi;rw[List.length_append,List.length_singleton]at hi;by_cases hl:i<l.length
 ·simp only[List.getD,List.getElem?_append_left hl,List.getElem?_append_left (show j<l.length by omega)]
  exact h i j hj hl
 ·obtain rfl:i=l.length:=by omega
  simp only[List.getD,List.getElem?_append_left hj];simp only[List.getElem?_append_right (Nat.le_refl _),Nat.sub_self,List.getElem?_cons_zero,Option.getD_some];rw[List.any_eq_false]at hn;have:=hn l[j] (by simp);simp only[List.getElem?_eq_getElem hj,Option.getD_some];rw[Bool.beq_comm];simpa using this
theorem QbS{w0 w:World}{bp base:Nat}{ts:Toks}(hp:PS w0 bp base ts)(he:Ext (fun _=>False) w0 w)(s:ByteArray)(args:Value) :
  Calls Tryz.prog 95 #[.pointer (some ⟨bp,0,none⟩),.string s,args] w fun e w'=>∃T x,e=.returned (.iface T x)∧Ext (fun _=>False) w0 w':=by
 refine(Qay (hp.ext he (fun _ k=>k.elim)) s args).mono ?_;rintro e w'⟨T,x,rfl,hb⟩;exact⟨T,x,rfl,he.trans (.below hb)⟩
theorem entry_lt{L:Lex}{E:Toks→Option (Ex×Toks)}(hE:Sh E){ts us:Toks}{y:ByteArray×Ex}(h:Wf ts)(he:entry L E ts=some (y,us)):us.length<ts.length:=by
 rw[entry]at he;split at he
 ·cases he
 ·split at he
  ·cases he
  ·rename_i vs hv
   have h1:=QaC h.adv hv;split at he
   ·cases he
   ·rename_i y zs hz
    cases he;have h2:=(hE _ _ _ (h1.wf h.adv) hz).2;have h3:=(h1.trans (Qam h)).len;omega
def recE(L:Lex)(E:Toks→Option (Ex×Toks))(ts:Toks):Option (Ex×Toks):=match recd L E ts with
 | none=>none
 | some (l,us)=>some (.recd l,us)
structure RKeep(w0:World)(R V:Nat)(w:World):Prop where
 r:∃x,w.heap[R]? =some (.cells #[x] 299 (0,0))
 v:w.heap[V]? =some (.cells #[.nilIface] 299 (0,0))
 ne:R≠V
 x:Ext (·=R) w0 w
theorem RKeep.start{w:World}{R V:Nat}(hr:w.heap[R]? =some (.cells #[.nilIface] 299 (0,0)))(hv:w.heap[V]? =some (.cells #[.nilIface] 299 (0,0)))(h:R≠V):RKeep w R V w:=⟨⟨_,hr⟩,hv,h,.refl _ _⟩
theorem RKeep.drew{w0 w:World}{R V:Nat}(h:RKeep w0 R V w):RKeep w0 R V w.drew:=⟨h.r,h.v,h.ne,h.x.drew⟩
theorem RKeep.alloc{w0 w:World}{R V:Nat}(h:RKeep w0 R V w)(o:Obj):RKeep w0 R V (w.alloc o):=by
 obtain⟨x,hx⟩:=h.r;exact⟨⟨x,Qaf hx _⟩,Qaf h.v _,h.ne,h.x.alloc o⟩
theorem RKeep.set{w0 w:World}{R V:Nat}(h:RKeep w0 R V w)(u:Value):RKeep w0 R V (w.setCell ⟨R,0,none⟩ u):=by
 obtain⟨x,hx⟩:=h.r;exact⟨⟨u,Qac (o:=0) hx u⟩,Qag h.v (fun e=>h.ne e.symm) u,h.ne,h.x.set (p:=⟨R,0,none⟩) (.inl rfl) u⟩
theorem RKeep.cell{w0 w:World}{R V:Nat}(h:RKeep w0 R V w):w.cell? ⟨V,0,none⟩=some .nilIface:=Qaa h.v rfl
theorem RKeep.old{w0 w:World}{R V:Nat}(h:RKeep w0 R V w):∃x,w.cell? ⟨R,0,none⟩=some x∧w.frozen? ⟨R,0,none⟩=false:=by
 obtain⟨x,hx⟩:=h.r;exact⟨x,Qaa hx rfl,Qae hx 0⟩
theorem RKeep.below{w0 w w':World}{R V:Nat}(h:RKeep w0 R V w)(hb:Below w.heap.size w w'):RKeep w0 R V w':=by
 obtain⟨x,hx⟩:=h.r;exact⟨⟨x,Bk hb hx⟩,(hb.block _ (Qad h.v)).trans h.v,h.ne,h.x.trans (.below hb)⟩
theorem QgT{w0 w:World}{bp base R V:Nat}{t:Tok}{ts:Toks}(hp:PS w0 bp base (t::ts))(h:RKeep w0 R V w)(hR:base≤R) :
  Calls Tryz.prog 53 #[.pointer (some ⟨bp,0,none⟩)] w fun e w'=>e=.returned t.val∧RKeep w0 R V w':=by
 refine(Qa7 (hp.ext h.x (fun d k=>by subst k;exact hR))).mono ?_;rintro e w'⟨rfl,hb⟩;exact⟨rfl,h.below hb⟩
theorem QeW{w0 w:World}{bp base R V:Nat}{ts:Toks}(hp:PS w0 bp base ts)(h:RKeep w0 R V w)(hR:base≤R)(s:ByteArray)(args:Value) :
  Calls Tryz.prog 95 #[.pointer (some ⟨bp,0,none⟩),.string s,args] w fun e w'=>∃T x,e=.returned (.iface T x)∧RKeep w0 R V w':=by
 refine(Qay (hp.ext h.x (fun d k=>by subst k;exact hR)) s args).mono ?_;rintro e w'⟨T,x,rfl,hb⟩;exact⟨T,x,rfl,h.below hb⟩
def RdRel(m:Nat→List (ByteArray×Ex)→Toks→Option (List (ByteArray×Ex)×Toks))(bp base N:Nat)(w:World)(Rm:Option (List (ByteArray×Ex)×Toks))(s:Value)(wr:World):Prop :=
 ∃g acc cells vs,m g acc vs=Rm∧vs.length<g∧Wf vs∧vs.length≤N∧acc.length+vs.length≤N∧PS wr bp base vs∧wr.ownsRow (w.heap.size+1+1+1) 439 2 s acc.length cells∧PairsIs wr base cells acc∧Distinct acc∧wr.heap[w.heap.size]? =some (.cells #[.nilIface] 299 (0,0))∧wr.heap[w.heap.size+1]? =some (.cells #[.nilIface] 299 (0,0))∧MsIs wr (w.heap.size+1+1+1) (w.heap.size+1+1) (acc.map (·.1))∧Ext (·=bp) w wr
theorem record_w{L:Lex}(hL:LexC L){E:Toks→Option (Ex×Toks)}{bp base N:Nat}(hE:Sh E)(hC:FnC 149 E bp base N):FnC 280 (recE L E) bp base N:=by
 intro w ts hp hwf hN hbs;have hbb:=hp.hbp;have h15:=hp.h15;have hlen:=hp.len;have HC:=Hi hC;have HE:=Hi hE;have HLX:=Hi hL;clear hC hE hL;go_enter Tryz.func280,Tryz.ntmps280
 go_upto_region 4 with(fail)
 obtain⟨w1,hw⟩:∃w1,(((w.alloc (.cells #[.nilIface] 299)).alloc (.cells #[.nilIface] 299)).alloc (.cells #[.map none] 283))=w1:=⟨_,rfl⟩
 rw[hw];have hF:Below w.heap.size w w1:=by rw[←hw];exact((Qab w _).alloc (by simp) _).alloc (by simp;omega) _
 have hR1:w1.heap[w.heap.size]? =some (.cells #[.nilIface] 299 (0,0)):=by rw[←hw];exact Qaf (Qaf (Qah (by simp) _) _) _
 have hV1:w1.heap[w.heap.size+1]? =some (.cells #[.nilIface] 299 (0,0)):=by rw[←hw];exact Qaf (Qah (by simp) _) _
 have hS01:w1.heap[w.heap.size+1+1]? =some (.cells #[.map none] 283 (0,0)):=by rw[←hw];exact Qah (by simp) _
 have hs1:w.heap.size+3≤w1.heap.size:=by rw[←hw];simp
 clear hw;have hX1:Ext (·=bp) w w1:=.below hF;have hp1:=hp.below hF;clear hp;clear hF
 go_loopw [5] (fun s wr=>RdRel (Qbz L E) bp base ts.length w (Qbz L E (ts.length+1) [] ts) s wr) (fun _ wr=>left wr bp)
 case atStart=>exact⟨ts.length+1,[],[],ts,rfl,by omega,hwf,by omega,by simp,hp1,⟨rfl,.inl ⟨rfl,rfl⟩⟩,.nil,fun i j _ h=>absurd h (Nat.not_lt_zero _),hR1,hV1,.inl ⟨rfl,hS01⟩,hX1⟩
 case round =>
  clear hp1 hR1 hV1 hS01 hX1;obtain⟨wo,rfl⟩:∃wo:World,wo=wr:=⟨_,rfl⟩
  obtain⟨g,acc,cells,vs,hg,hgl,hvw,hvN,haN,hp_wo,hO_wo,hm_wo,hdis,hR_wo,hV_wo,hS_wo,hX_wo⟩:=hrel;have HG:=Hi hg;clear hg;cases g with
  | zero=>omega
  | succ g =>
  obtain⟨u,q,rfl⟩:∃u q,vs=u::q:=by cases vs with | nil=>exact absurd rfl hp_wo.ne | cons u q=>exact⟨u,q,rfl⟩
  have HLF:=Hi hp_wo.left;have hsz_wo:=hX_wo.size;have hul:0<(u::q).length:=by simp
  have ltV:=Qad hV_wo;obtain⟨vx,hvx⟩:=hS_wo.box;have ltS:=Qad hvx;clear hvx
  go_wp2_with fail
  refine(Qa7 hp_wo).mono ?_;rintro e w2⟨rfl,hF⟩;have hS2:=hS_wo.later hF;have hm2:=hm_wo.later hF;have hR2:=Bk hF hR_wo;have hV2:=Bk hF hV_wo;have hO2:=Qaj (S:=fun _=>False) hO_wo (.below hF) (fun _ h=>h.elim);have hs2:=hF.size;have hX2:=hX_wo.trans (.below hF);have hp2:=hp_wo.below hF;clear hm_wo hR_wo hV_wo hO_wo hX_wo hp_wo hS_wo;clear hF
  go_upto_region 5 with(fail)
  obtain⟨w3,hw⟩:∃w3,w2.alloc (.cells #[.int .i64 u.ty,.string u.fn,.int .i64 u.off,.int .i64 u.ln,.int .i64 u.col,.string u.tx] 122)=w3:=⟨_,rfl⟩
  rw[hw];have hF:Below w2.heap.size w2 w3:=by rw[←hw];exact Qab _ _
  have hK3:w3.heap[w2.heap.size]? =some (.cells #[.int .i64 u.ty,.string u.fn,.int .i64 u.off,.int .i64 u.ln,.int .i64 u.col,.string u.tx] 122 (0,0)):=by rw[←hw];exact heap_alloc_new _ _
  have hs3:w2.heap.size+1≤w3.heap.size:=by rw[←hw];simp
  clear hw;have hS3:=hS2.later hF;have hm3:=hm2.later hF;have hR3:=Bk hF hR2;have hV3:=Bk hF hV2;have hO3:=Qaj (S:=fun _=>False) hO2 (.below hF) (fun _ h=>h.elim);have hX3:=hX2.trans (.below hF);have hp3:=hp2.below hF;clear hm2 hR2 hV2 hO2 hX2 hp2 hS2;clear hF;have c_hK_5:=Qaa (o:=5) hK3 rfl;cases ht:(u.tx.toList==[125])with
  | true =>
   go_wp2_with fail
   refine(Qaz hp3).mono ?_;rintro e w4⟨rfl,hp4,hF⟩;have hS4:=hS3.ext hF (fun d hd=>by subst hd;omega);have hm4:=hm3.keep hF (fun d hd=>by omega);have hR4:=hF.heap (by omega) hR3;have hV4:=hF.heap (by omega) hV3;have hK4:=hF.heap (by omega) hK3;have hO4:=Qaj hO3 hF (fun d hd=>by omega);have hs4:=hF.size;have hX4:=hX3.trans hF;clear hm3 hR3 hV3 hK3 hO3 hX3 hp3 c_hK_5 hS3;clear hF
   go_wp2_with fail
   refine(record_c (by omega) hO4 hm4 hdis (by omega)).mono ?_;rintro e w5⟨hF,T9,v9,rfl,hz5⟩;clear hm4 hO4;clear hS4;have hR5:=Bk hF hR4;have hV5:=Bk hF hV4;have hK5:=Bk hF hK4;have hs5:=hF.size;have hX5:=hX4.trans (.below hF);have hp5:=hp4.below hF;clear hR4 hV4 hK4 hX4 hp4;clear hF;have c_hR_0:=Qaa (o:=0) hR5 rfl;have f_hR:=Qae hR5 0;have lt_hR:=Qad hR5;have HR:=Hi (show recE L E ts=some (Ex.recd acc,adv (u::q))by unfold recE;rw[show recd L E ts=Qbz L E (ts.length+1) [] ts from rfl,←HG.out,Qbz];simp[tx,ht])
   have HB:=Hi hR5;clear hR5;go_wp2;refine Qai (R:=w.heap.size) _ 2 3 (by kernel_rfl) rfl rfl rfl (Qac (o:=0) HB.out _) ?_;exact(Qal HR.out (hX5.set (p:=⟨w.heap.size,0,none⟩) (.inr (show _≤w.heap.size by omega)) _) (hp5.set (o:=0) (by omega) _) (NodeIs.store (o:=0) (hz5) HB.out (by decide) _))
  | false =>
   have hnc:=ht;clear ht
   go_wp2_with fail
   refine(entry_w HLX.out HE.out HC.out _ _ hp3 hvw (by omega) (by omega)).mono ?_;rintro e w4⟨hF,hr⟩;have hS4:=hS3.ext hF (fun d hd=>by subst hd;omega);have hm4:=hm3.keep hF (fun d hd=>by omega);have hR4:=hF.heap (by omega) hR3;have hV4:=hF.heap (by omega) hV3;have hK4:=hF.heap (by omega) hK3;have hO4:=Qaj hO3 hF (fun d hd=>by omega);have hs4:=hF.size;have hX4:=hX3.trans hF;clear hm3 hR3 hV3 hK3 hO3 hX3 c_hK_5 hS3
   clear hF;clear hK4;cases hm:entry L E (u::q)with
   | none =>
    rw[hm]at hr;obtain⟨k9,T9,v9,rfl⟩:=hr;have c_hV_0:=Qaa (o:=0) hV4 rfl;have lt_hV:=Qad hV4;have c_hR_0:=Qaa (o:=0) hR4 rfl;have f_hR:∀o,(w4.alloc o).frozen? ⟨w.heap.size,0,none⟩=false:=fun o=>Qae (Qaf hR4 o) 0
    have lt_hR:=Qad hR4;have HR:=Hi (show recE L E ts=none by unfold recE;rw[show recd L E ts=Qbz L E (ts.length+1) [] ts from rfl,←HG.out,Qbz];simp[tx,hnc,hm]);have HB:=Hi hR4;clear hR4;go_wp2;refine Qai (R:=w.heap.size) _ 2 3 (by kernel_rfl) rfl rfl rfl (Qaf (Qac (o:=0) HB.out _) _) ?_;exact(Qak HR.out ((hX4.set (p:=⟨w.heap.size,0,none⟩) (.inr (show _≤w.heap.size by omega)) _).alloc _))
   | some p2 =>
    obtain⟨⟨k,x⟩,us⟩:=p2;rw[hm]at hr;obtain⟨T9,v9,rfl,hp9,hx4⟩:=hr;have hwu:=(QdY HE.out _ _ _ hvw hm).wf hvw;have hl2:us.length<(u::q).length:=entry_lt HE.out hvw hm;have HM:=Hi hm;clear hm
    go_upto_region 11 with(fail)
    obtain⟨w5,hw⟩:∃w5,w4.alloc (.cells #[.iface T9 v9] 299)=w5:=⟨_,rfl⟩
    rw[hw];have hF:Below w4.heap.size w4 w5:=by rw[←hw];exact Qab _ _
    have hB5:w5.heap[w4.heap.size]? =some (.cells #[.iface T9 v9] 299 (0,0)):=by rw[←hw];exact heap_alloc_new _ _
    have hs5:w4.heap.size+1≤w5.heap.size:=by rw[←hw];simp
    clear hw;have hS5:=hS4.later hF;have hm5:=hm4.later hF;have hx5:=hx4.later hF;have hR5:=Bk hF hR4;have hV5:=Bk hF hV4;have hO5:=Qaj (S:=fun _=>False) hO4 (.below hF) (fun _ h=>h.elim);have hX5:=hX4.trans (.below hF);have hp5:=hp9.below hF;clear hm4 hx4 hR4 hV4 hO4 hX4 hp9 hS4;clear hF;obtain⟨vx,hvx,hmv⟩:=hS5.val;have c_S:=Qaa (o:=0) hvx rfl;clear hvx
    go_wp2_with fail
    refine(QcT hmv k).mono ?_;rintro e w6⟨rfl,hF⟩;have hS6:=hS5.later hF;have hm6:=hm5.later hF;have hx6:=hx5.later hF;have hR6:=Bk hF hR5;have hV6:=Bk hF hV5;have hB6:=Bk hF hB5;have hO6:=Qaj (S:=fun _=>False) hO5 (.below hF) (fun _ h=>h.elim);have hs6:=hF.size;have hX6:=hX5.trans (.below hF);have hp6:=hp5.below hF;clear hm5 hx5 hR5 hV5 hB5 hO5 hX5 hp5 c_S hS5;clear hF;clear hmv;rw[QgS];cases hd:(acc.any fun p=>p.1.toList==k.toList)with
    | true =>
     have c_hR_0:=Qaa (o:=0) hR6 rfl;have c_hV_0:=Qaa (o:=0) hV6 rfl;have lt_hR:=Qad hR6;have lt_hV:=Qad hV6;have HR:=Hi (show recE L E ts=none by unfold recE;rw[show recd L E ts=Qbz L E (ts.length+1) [] ts from rfl,←HG.out,Qbz];simp[tx,hnc,HM.out,hd]);have HB:=Hi (And.intro hR6 hV6);clear hR6 hV6 hB6 hm6 hx6 hO6 hS6;clear hd HM HG
     go_upto_region 12 with(fail)
     go_region_with(go_at_call 95;refine(QbS (w0:=w6) hp6 ((Ext.refl _ _).alloc _).drew _ _).mono ?_;rintro e wq ⟨T7,v7,rfl,hq⟩;have cq1:=hq.cell (fun k=>k) c_hV_0;have cq2:=hq.cell (fun k=>k) c_hR_0;have cq3:=Qae (hq.heap (fun k=>k) HB.out.1) 0)
     all_goals go_wp2
     all_goals refine Qai (R:=w.heap.size) _ 2 3 (by kernel_rfl) rfl rfl rfl (Qac (o:=0) (hq.heap (fun k=>k) HB.out.1) _) ?_
     all_goals exact Qak HR.out ((hX6.trans' hq (fun _ k=>k.elim)).set (p:=⟨w.heap.size,0,none⟩) (.inr (Nat.le_refl _)) _)
    | false =>
     have hdis2:=hdis.snoc (x:=x) hd;have hak:((acc.map (·.1)).any fun y=>k.toList==y.toList)=false:=by rw[QgS];exact hd
     go_wp2_with fail
     refine(add_c hS6 (by omega) k hak).mono ?_;rintro e w7⟨rfl,hS7,hF⟩;clear hak;have hbx:=hS6.box;clear hS6;have hm7:=hm6.extG hF (fun d hd T c fr h=>by rw[Qbw hbx hd h];decide);have hx7:=hx6.extG hF (fun d hd T c fr h=>by rw[Qbw hbx hd h];decide);have hO7:=Qcc hO6 hF (fun d hd c fr h=>absurd (Qbw hbx hd h) (by decide));have hsm:∀d,SM (w.heap.size+1+1+1) (w.heap.size+1+1) w6 d→w.heap.size+1+1≤d:=fun d hd=>by rcases hd with rfl | ⟨h,_⟩<;>omega
     have hp7:=hp6.ext hF (fun d hd=>by have:=hsm d hd;omega);have hX7:=hX6.trans' hF (fun d hd=>.inr (by have:=hsm d hd;omega));have hs7:=hF.size;have hR7:=hF.heap (fun hd=>by have:=hsm _ hd;omega) hR6;have hV7:=hF.heap (fun hd=>by have:=hsm _ hd;omega) hV6;have hB7:w7.heap[w4.heap.size]? =some (.cells #[.iface T9 v9] 299 (0,0)):=hF.heap (fun hd=>absurd (Qbw hbx hd hB6) (by decide)) hB6;clear hF hsm hbx
     clear hm6 hx6 hO6 hR6 hV6 hB6 hp6 hX6;have c_hB_0:=Qaa (o:=0) hB7 rfl;have hb4:=Qab w7 (.cells #[.string k,.iface T9 v9] 439);have n0:∀j u,[Value.string k,Value.iface T9 v9][j]? =some u→(w7.alloc (.cells #[.string k,.iface T9 v9] 439)).cell? ⟨w7.heap.size,j,none⟩=some u:=by
      intro j u hj;exact Qaa (heap_alloc_new _ _) (by simpa using hj)
     have hOa:=Qaj (S:=fun _=>False) hO7 (.below hb4) (fun _ h=>h.elim);have hma:=hm7.later hb4;have hxa:=hx7.later hb4;have hpa:=hp7.below hb4;have hXa:=hX7.alloc (.cells #[.string k,.iface T9 v9] 439);have hRa:=Qaf hR7 (.cells #[.string k,.iface T9 v9] 439);have hVa:=Qaf hV7 (.cells #[.string k,.iface T9 v9] 439);have hSa:=hS7.later hb4;clear hm7 hx7 hO7 hR7 hV7 hB7 hS7 hp7 hX7
     go_wp2_with(at_builtin;refine appG sl434 rfl _ _ rfl (w.heap.size+1+1+1) _ _ _ rfl hOa _ [.string k,.iface T9 v9] rfl rfl n0 (fun v hv=>by simp at hv;rcases hv with rfl | rfl<;>rfl) (by unfold maxLen;omega) (by omega) (by simp;omega) ?_)
     intro v10 w20 hO20 hg9 _;have hs20:w7.heap.size≤w20.heap.size:=by have:=hg9.size;simp at this;omega
     have hm20:=(hma.grow hOa hg9 (by decide)).snoc (k:=k) (hxa.grow hOa hg9 (by decide));have hp20:=hpa.grow hOa hg9 (by omega);have hX20:=hXa.grow hOa hg9 (by omega);have hR20:=QaL hRa hOa hg9 (by omega);have hV20:=QaL hVa hOa hg9 (by omega);have hS20:=hSa.grow hOa hg9 (by decide);clear hOa hma hxa hpa hXa n0 hg9 c_hB_0 hRa hVa hSa hb4;obtain⟨u2,q2,rfl⟩:∃u q,us=u::q:=by cases us with | nil=>exact absurd rfl hp20.ne | cons u q=>exact⟨u,q,rfl⟩
     go_wp2_with fail
     refine(Qa7 hp20).mono ?_;rintro e w21⟨rfl,hF⟩;have hS21:=hS20.later hF;have hm21:=hm20.later hF;have hR21:=Bk hF hR20;have hV21:=Bk hF hV20;have hO21:=Qaj (S:=fun _=>False) hO20 (.below hF) (fun _ h=>h.elim);have hs21:=hF.size;have hX21:=hX20.trans (.below hF);have hp21:=hp20.below hF;clear hm20 hR20 hV20 hO20 hX20 hp20 hS20;clear hF;cases ht:(u2.tx.toList==[44])with
     | true =>
      have hau:(adv (u2::q2)).length<(u2::q2).length:=Qax hwu (s:=[44]) ht (by decide)
      go_wp2_with fail
      refine(Qaz hp21).mono ?_;rintro e w22⟨rfl,hp22,hF⟩;have hS22:=hS21.ext hF (fun d hd=>by subst hd;omega);have hm22:=hm21.keep hF (fun d hd=>by omega);have hR22:=hF.heap (by omega) hR21;have hV22:=hF.heap (by omega) hV21;have hO22:=Qaj hO21 hF (fun d hd=>by omega);have hs22:=hF.size;have hX22:=hX21.trans hF;clear hm21 hR21 hV21 hO21 hX21 hp21 hS21;clear hF;have HG2:=Hi (show Qbz L E g (acc++[(k,x)]) (adv (u2::q2))=Qbz L E (ts.length+1) [] ts by rw[←HG.out,Qbz];simp[tx,hnc,HM.out,hd,ht])
      go_wp2;go_roundw
      case rel=>exact⟨g,acc++[(k,x)],_,_,HG2.out,by omega,hwu.adv,by omega,by rw[List.length_append];show acc.length+1+_≤_;omega,hp22,by simpa using hO22,hm22,hdis2,hR22,hV22,by simpa using hS22,hX22⟩
      case measure =>
       rw[hp22.left,HLF.out];omega
     | false =>
      have hnk:=ht;clear ht;cases ht:(u2.tx.toList==[125])with
      | true =>
       have HG2:=Hi (show Qbz L E g (acc++[(k,x)]) (u2::q2)=Qbz L E (ts.length+1) [] ts by obtain⟨g',rfl⟩:∃g',g=g'+1:=⟨g-1,by omega⟩;rw[←HG.out];simp[Qbz,tx,hnc,HM.out,hd,hnk,ht]);go_wp2;go_roundw
       case rel=>exact⟨g,acc++[(k,x)],_,_,HG2.out,by omega,hwu,by omega,by rw[List.length_append];show acc.length+1+_≤_;omega,hp21,by simpa using hO21,hm21,hdis2,hR21,hV21,by simpa using hS21,hX21⟩
       case measure =>
        rw[hp21.left,HLF.out];omega
      | false =>
       have HR0:=Hi (show recE L E ts=none by unfold recE;rw[show recd L E ts=Qbz L E (ts.length+1) [] ts from rfl,←HG.out,Qbz];simp[tx,hnc,HM.out,hd,hnk,ht]);have c_hR_0:=Qaa (o:=0) hR21 rfl;have c_hV_0:=Qaa (o:=0) hV21 rfl;have lt_hR:=Qad hR21;have lt_hV:=Qad hV21;have HR:=Hi (HR0.out);have HB:=Hi (And.intro hR21 hV21);clear hR21 hV21 hm21 hO21 hS21;clear HM HG
       go_upto_region 16 with(fail)
       have HK0:=RKeep.start HB.out.1 HB.out.2 (show w.heap.size≠w.heap.size+1 by omega)
       go_region_held3 (fun w'=>w'.cell? ⟨w.heap.size+1,0,none⟩=some .nilIface∧RKeep w21 (w.heap.size) (w.heap.size+1) w') (first | exact⟨HK0.drew.cell,HK0.drew⟩ | exact⟨RKeep.cell (RKeep.alloc (And.right (by assumption)) _),RKeep.alloc (And.right (by assumption)) _⟩ | exact⟨RKeep.cell (RKeep.set (And.right (by assumption)) _),RKeep.set (And.right (by assumption)) _⟩ | exact⟨RKeep.cell hqk,hqk⟩) (first | (go_at_call 53;refine(QgT hp21 (And.right (by assumption)) (by omega)).mono ?_;rintro e wp ⟨rfl,hqk⟩) | (go_at_call 95;refine(QeW hp21 (And.right (by assumption)) (by omega) _ _).mono ?_;rintro e wq ⟨T7,v7,rfl,hqk⟩;obtain⟨xr,cq2,cq3⟩:=hqk.old))
       obtain⟨xr9,hxr9⟩:=hqk.r;go_wp2;refine Qai (R:=w.heap.size) _ 2 3 (by kernel_rfl) rfl rfl rfl (Qac (o:=0) hxr9 _) ?_;exact Qak HR.out ((hX21.trans' hqk.x (fun d k=>.inr (by subst k;omega))).set (p:=⟨w.heap.size,0,none⟩) (.inr (Nat.le_refl _)) _)
end Go.Proofs.Pg
