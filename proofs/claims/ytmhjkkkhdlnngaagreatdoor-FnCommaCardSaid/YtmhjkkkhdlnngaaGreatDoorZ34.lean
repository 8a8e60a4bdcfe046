/- FnComma: a last comma changes nothing; for every world. Part 34. -/
import Derived.Test.YtmhjkkkhdlnngaaGreatDoorZ33
import Derived.Lib.RuneBytes
set_option linter.all false
set_option maxRecDepth 100000
set_option maxHeartbeats 40000000
namespace Go.Proofs.Pg
open Go.RowKit
attribute [local go_sem] Oper.semAt_some
theorem Qd4{P:Program}{ops:Array Oper}{Q:Exit→Act→World→Prop}{listed:Array Bool}{a:Act}{w:World}(hr:Region.ready .any ops listed=[])(h:Q .normal a w):∀k,wpAny P .any ops Q k listed a w
 | 0=>⟨hr,h⟩
 | _+1=>⟨fun _=>h,fun i hi=>by rw[hr]at hi;cases hi⟩
def ks(l:List (ByteArray×Ex)):List Value:=l.map fun p=>.string p.1
def RdRl(w0:World)(l:List (ByteArray×Ex))(ys:List PEx)(sl:Value)(wr:World):Prop :=
 ∃i vA vB csB,sl=.int .i64 ((i:Nat):Int)∧i≤l.length∧wr.heap[w0.heap.size]? =some (.cells xZero 33 (0,0))∧wr.heap[w0.heap.size+1+1]? =some (.cells (xCells 30 ⟨#[]⟩ 0 0 ⟨#[]⟩ ⟨#[]⟩ vA (.slice none 0 0) vB) 33 (0,0)) ∧
  wr.ownsRow (w0.heap.size+3) 9 1 vA i (ks (l.take i))∧wr.ownsRow (w0.heap.size+3) 33 11 vB i csB∧PxsIs wr (fun d=>w0.heap.size+3≤d∧vA.ownBlock≠some d∧vB.ownBlock≠some d) csB (ys.take i)∧Below w0.heap.size w0 wr∧w0.heap.size+3≤wr.heap.size
def ΦR(B yb eb H:Nat)(vA vB:Value)(n:Nat)(key:ByteArray)(xA xB:List Value)(c:Array Value)(j:Nat)(v:Value)(w:World):Prop:=match j with
 | 0=>v=.pointer (some ⟨yb,8,none⟩)
 | 1=>v=vA
 | 2=>v=.pointer (some ⟨eb,0,none⟩)
 | 3=>v=.string key
 | 4=>∃blk,v=.slice (some ⟨blk,0,none⟩) 1 1∧w.heap[blk]? =some (.cells #[.string key] 9 (0,0))∧H≤blk
 | 5=>w.ownsRow B 9 1 v (n+1) (xA++[.string key])∧(v.ownBlock=vA.ownBlock∨∀k,v.ownBlock=some k→H≤k)
 | 6=>v=.pointer (some ⟨yb,10,none⟩)
 | 7=>v=vB
 | 8=>v=.agg c
 | 9=>∃blk,v=.slice (some ⟨blk,0,none⟩) 1 1∧w.heap[blk]? =some (.cells c 33 (0,0))∧H≤blk
 | 10=>w.ownsRow B 33 11 v (n+1) (xB++c.toList)∧(v.ownBlock=vB.ownBlock∨∀k,v.ownBlock=some k→H≤k)
 | 11=>v=.pointer (some ⟨yb,8,none⟩)
 | _=>True
theorem ΦR.kept{B yb eb H:Nat}{vA vB:Value}{n:Nat}{key:ByteArray}{xA xB:List Value}{c:Array Value}{j:Nat}{v:Value}{w w':World}(hE:RE vA vB B n xA [.string key] xB c.toList w w')(hA:∀k,vA.ownBlock=some k→k<H)(hB:∀k,vB.ownBlock=some k→k<H)
  (h:ΦR B yb eb H vA vB n key xA xB c j v w):ΦR B yb eb H vA vB n key xA xB c j v w':=by
 unfold ΦR at h ⊢;split<;>first | exact trivial | exact h | skip
 ·obtain⟨blk,h1,h2,h3⟩:=h
  exact⟨blk,h1,hE.ext.heap (fun hS=>hS.elim (fun e=>by have:=hA _ e;omega) (fun e=>by have:=hB _ e;omega)) h2,h3⟩
 ·exact⟨hE.a1 _ h.1,h.2⟩
 ·obtain⟨blk,h1,h2,h3⟩:=h
  exact⟨blk,h1,hE.ext.heap (fun hS=>hS.elim (fun e=>by have:=hA _ e;omega) (fun e=>by have:=hB _ e;omega)) h2,h3⟩
 ·exact⟨hE.b1 _ h.1,h.2⟩
theorem px_recd{l:List (ByteArray×Ex)}{ys:List PEx}(hlen:ys.length=l.length)(hC:∀(i:Nat)(a:ByteArray×Ex)(y:PEx),l[i]? =some a→ys[i]? =some y→PxC a.2 y)(hm:l.length≤1000000):PxC (.recd l) (.mk 30 ⟨#[]⟩ pv0 (l.map (·.1)) [] ys):=by
 intro w lo v hn;cases hn with
 | recd _ p c vs hr hn =>
 have HC:=Hi hC;clear hC;have HLEN:=Hi hlen;clear hlen;have HN:=Hi hn;clear hn;have HRW:=Hi hr;clear hr;go_enter Tryz.func51,Tryz.ntmps51
 go_upto_region 48 with(fail)
 refine QaB fun w1 hw1=>?_
 have HQ:Hid (RdRl w l ys (.int .i64 0) w1):=Hi (by
  rw[hw1];refine⟨0,.slice none 0 0,.slice none 0 0,[],rfl,Nat.zero_le _,Qaf (Qaf (heap_alloc_new w _) _) _,Qah (by simp) _,⟨rfl,.inl ⟨rfl,rfl⟩⟩,⟨rfl,.inl ⟨rfl,rfl⟩⟩,.nil,((Qab w _).alloc (by simp) _).alloc (by simp;omega) _,by simp⟩)
 clear hw1
 go_loopw [182] (fun sl wr=>RdRl w l ys sl wr) (fun sl _=>l.length-(intOf sl).toNat)
 case atStart=>exact HQ.out
 case round =>
  clear HQ;obtain⟨i,vA,vB,csB,rfl,hi,hR,hY,hA,hB,hP,hBl,hz⟩:=hrel;obtain⟨pA,cA,rfl,-⟩:=RwU.own hA;obtain⟨pB,cB,rfl,-⟩:=RwU.own hB;have HR:=Hi hR;clear hR;have HA:=Hi hA;clear hA;have HBB:=Hi hB;clear hB;have HP:=Hi hP;clear hP;have HB:=Hi hBl;clear hBl;by_cases hlt:i<l.length
  ·obtain⟨a,ha⟩:∃a,l[i]? =some a:=⟨l[i],by simp[hlt]⟩
   obtain⟨y,hy⟩:∃y,ys[i]? =some y:=⟨ys[i]'(by have:=HLEN.out;omega),by simp[hlt,HLEN.out]⟩
   have hnd:=HN.out i a ha;obtain⟨T,x,hvi⟩:=hnd.iface;rw[hvi]at hnd;obtain⟨b,off,cc,fr,rfl,hlb,hcb,hcc⟩:=HRW.out.resolve_left (by omega);have hcc:=hcc i hlt;have hgd:l.getD i (⟨#[]⟩,.set [])=a:=by rw[List.getD_eq_getElem?_getD,ha];rfl
   simp only[hgd,hvi]at hcc;have hwb:=(HB.out.block b (Qad hcb)).trans hcb;have c0:wr.cell? ⟨b,off+i*2,none⟩=some (.string a.1):=Qaa hwb hcc.1;have c1:wr.cell? ⟨b,off+i*2+1,none⟩=some (.iface T x):=Qaa hwb hcc.2;have HX:=Hi (And.intro ha hy);clear ha hy hcb hcc hwb hgd hvi;obtain⟨key,a⟩:=a;have hnd2:=hnd.keep (Ext.below (S:=fun _=>False) (HB.out.alloc (by omega) (.cells #[.string key,.iface T x] 221))) (fun _ h=>h.elim)
   go_wp2_with fail
   refine(HC.out i (key,a) y HX.out.1 HX.out.2 _ _ _ hnd2).mono ?_;rintro e w2⟨B2,ds,hpx,rfl⟩;obtain⟨op',s',kd,nn,vs',vt,pk,nk,ck,pp,np,cp,pl,nl,cl,rfl⟩:=hpx.get;have HPX:=Hi hpx;clear hpx
   go_upto_region 53 with(fail)
   refine QaB fun w3 hw3=>?_
   have hz12:=(show Below (wr.alloc (.cells #[.string key,.iface T x] 221)).heap.size _ w2 from B2).size;have B3:Below wr.heap.size wr w3:=by
    rw[hw3];have h1:=Qab wr (.cells #[.string key,.iface T x] 221);exact(h1.trans (B2.mono (by simp))).alloc (by simp at hz12;omega) _
   have hzb:w3.heap[w2.heap.size]? =some (.cells (xCells op' s' kd nn vs' vt (.slice pk nk ck) (.slice pp np cp) (.slice pl nl cl)) 33 (0,0)):=by rw[hw3];exact heap_alloc_new _ _
   have heb:w3.heap[wr.heap.size]? =some (.cells #[.string key,.iface T x] 221 (0,0)):=by
    rw[hw3];have h1:=heap_alloc_new wr (.cells #[.string key,.iface T x] 221);exact Qaf (Bk B2 h1) _
   have hz3:w3.heap.size=w2.heap.size+1:=by rw[hw3];simp
   have hpx3:PxIs w3 (fun d=>wr.heap.size+1≤d) _ y:=(HPX.out.after (show Below w2.heap.size w2 w3 by rw[hw3];exact Qab _ _)).ext (S:=fun _=>False) (.refl _ _) (fun d hd _=>⟨fun h=>h,by simp at hd;omega⟩);clear hw3;simp at hz12;have hY3:=Bk B3 hY;have hltA:=Qf8 HA.out;have hltB:=Qf8 HBB.out;have hgeA:∀k,(Value.slice pA i cA).ownBlock=some k→w.heap.size+3≤k:=fun k hk=>(Qa5 HA.out hk).1
   have hgeB:∀k,(Value.slice pB i cB).ownBlock=some k→w.heap.size+3≤k:=fun k hk=>(Qa5 HBB.out hk).1
   have hA3:=Qaj (S:=fun _=>False) HA.out (.below B3) (fun _ h=>h.elim);have hB3:=Qaj (S:=fun _=>False) HBB.out (.below B3) (fun _ h=>h.elim);refine QbE (by kernel_rfl) (by kernel_rfl) 12 (by decide) ?hcl ?htl (RE (.slice pA i cA) (.slice pB i cB) (w.heap.size+3) i (ks (l.take i)) [.string key] csB ((xCells op' s' kd nn vs' vt (.slice pk nk ck) (.slice pp np cp) (.slice pl nl cl)):Array Value).toList) (ΦR (w.heap.size+3) (w.heap.size+1+1) wr.heap.size w3.heap.size (.slice pA i cA) (.slice pB i cB) i key (ks (l.take i)) csB (xCells op' s' kd nn vs' vt (.slice pk nk ck) (.slice pp np cp) (.slice pl nl cl))) RE.drew (fun a b c h k=>h.trans k) ?hphi ?hop ?hlast
   case hcl =>
    intro listed hc hL j hj;have h10:=hL _ rfl {on:=10,ground:=.chain} (by simp) rfl;have h9:=hc 10 _ rfl h10 {on:=9,ground:=.data} (by simp) rfl;have h8:=hc 9 _ rfl h9 {on:=8,ground:=.data} (by simp) rfl
    match j,hj with
    | 0,_=>exact hL _ rfl {on:=0,ground:=.phase} (by simp) rfl
    | 1,_=>exact hL _ rfl {on:=1,ground:=.phase} (by simp) rfl
    | 2,_=>exact hL _ rfl {on:=2,ground:=.phase} (by simp) rfl
    | 3,_=>exact hL _ rfl {on:=3,ground:=.phase} (by simp) rfl
    | 4,_=>exact hL _ rfl {on:=4,ground:=.phase} (by simp) rfl
    | 5,_=>exact hL _ rfl {on:=5,ground:=.phase} (by simp) rfl
    | 6,_=>exact hL _ rfl {on:=6,ground:=.phase} (by simp) rfl
    | 7,_=>exact hL _ rfl {on:=7,ground:=.phase} (by simp) rfl
    | 8,_=>exact h8
    | 9,_=>exact h9
    | 10,_=>exact h10
    | 11,_=>exact hL _ rfl {on:=11,ground:=.data} (by simp) rfl
   case htl =>
    intro j o hj ho
    match j,hj,ho with
    | 13,_,ho=>obtain rfl:=Option.some.inj ho;exact⟨{on:=12,ground:=.phase},by simp,rfl,Nat.le_refl _⟩
    | 14,_,ho=>obtain rfl:=Option.some.inj ho;exact⟨{on:=13,ground:=.data},by simp,rfl,by decide⟩
    | j+15,_,ho=>simp at ho
   case hphi =>
    intro j u w5 w6 hE h;exact h.kept hE (fun k hk=>by have:=hltA k hk;have:=B3.size;omega) (fun k hk=>by have:=hltB k hk;have:=B3.size;omega)
   case hop =>
    have hHs:∀w6,RE (.slice pA i cA) (.slice pB i cB) (w.heap.size+3) i (ks (l.take i)) [.string key] csB ((xCells op' s' kd nn vs' vt (.slice pk nk ck) (.slice pp np cp) (.slice pl nl cl)):Array Value).toList w3 w6→w6.heap[w.heap.size+1+1]? =some (.cells (xCells 30 ⟨#[]⟩ 0 0 ⟨#[]⟩ ⟨#[]⟩ (.slice pA i cA) (.slice none 0 0) (.slice pB i cB)) 33 (0,0))∧w6.heap[wr.heap.size]? =some (.cells #[.string key,.iface T x] 221 (0,0))∧w6.heap[w2.heap.size]? =some (.cells (xCells op' s' kd nn vs' vt (.slice pk nk ck) (.slice pp np cp) (.slice pl nl cl)) 33 (0,0))∧w3.heap.size≤w6.heap.size:=fun w6 hE =>
     ⟨hE.ext.heap (fun hS=>hS.elim (fun e=>by have:=hgeA _ e;omega) (fun e=>by have:=hgeB _ e;omega)) hY3,hE.ext.heap (fun hS=>hS.elim (fun e=>by have:=hltA _ e;omega) (fun e=>by have:=hltB _ e;omega)) heb,hE.ext.heap (fun hS=>hS.elim (fun e=>by have:=hltA _ e;omega) (fun e=>by have:=hltB _ e;omega)) hzb,hE.ext.size⟩
    intro j o hj hi
    match j,hi,hj with
    | 0,hi,_ =>
     obtain rfl:=Option.some.inj hi;intro a1 w6 hE hoth hpre;exact Qaw 33 (.tmp 22) 3 rfl _ (hoth 22 (by decide)) _ (Qe8 w6 _) ⟨RE.refl,_,rfl,rfl⟩
    | 1,hi,_ =>
     obtain rfl:=Option.some.inj hi;intro a1 w6 hE hoth hpre;have h0:=hpre {on:=0,ground:=.data} (by simp) rfl _ rfl;exact QaO 27 (.tmp 195) rfl _ h0 _ (ld27 w6 _ _ _ _ _ (Qaa (hHs w6 hE).1 rfl)) ⟨RE.refl,_,rfl,rfl⟩
    | 2,hi,_ =>
     obtain rfl:=Option.some.inj hi;intro a1 w6 hE hoth hpre;exact Qaw 221 (.tmp 24) 0 rfl _ (hoth 24 (by decide)) _ (Qgj w6 _) ⟨RE.refl,_,rfl,rfl⟩
    | 3,hi,_ =>
     obtain rfl:=Option.some.inj hi;intro a1 w6 hE hoth hpre;have h0:=hpre {on:=2,ground:=.data} (by simp) rfl _ rfl;exact QaO 131 (.tmp 197) rfl _ h0 _ (ld131 w6 _ _ _ (Qaa (hHs w6 hE).2.1 rfl)) ⟨RE.refl,_,rfl,rfl⟩
    | 4,hi,_ =>
     obtain rfl:=Option.some.inj hi;intro a1 w6 hE hoth hpre;have h0:=hpre {on:=3,ground:=.data} (by simp) rfl _ rfl;exact wpo_bs27 198 rfl key h0 ⟨RE.alloc _,_,rfl,_,rfl,heap_alloc_new w6 _,(hHs w6 hE).2.2.2⟩
    | 5,hi,_ =>
     obtain rfl:=Option.some.inj hi;intro a1 w6 hE hoth hpre;have h1:=hpre {on:=1,ground:=.data} (by simp) rfl _ rfl;have h4:=hpre {on:=4,ground:=.data} (by simp) rfl _ rfl;obtain⟨blk,hb1,hb2,hb3⟩:=h4;exact QcX sl27 (.tmp 196) (.tmp 199) rfl (w.heap.size+3) _ i _ h1 (hE.a0 hA3) blk [.string key] rfl hb1 (QaD (Qaa hb2 rfl)) (fun v hv=>by rw[List.mem_singleton.1 hv];rfl) (by unfold maxLen;omega) (by omega) (by have:=(hHs w6 hE).2.2.2;omega) (fun v' w' q1 q2 q3 q4 q5=>⟨RE.growA (hE.a0 hA3) q2 q3 q5,v',rfl,q1,q4.imp id (fun h k hk=>Nat.le_trans (hHs w6 hE).2.2.2 (h k hk))⟩)
    | 6,hi,_ =>
     obtain rfl:=Option.some.inj hi;intro a1 w6 hE hoth hpre;exact Qaw 33 (.tmp 22) 5 rfl _ (hoth 22 (by decide)) _ (Qe9 w6 _) ⟨RE.refl,_,rfl,rfl⟩
    | 7,hi,_ =>
     obtain rfl:=Option.some.inj hi;intro a1 w6 hE hoth hpre;have h0:=hpre {on:=6,ground:=.data} (by simp) rfl _ rfl;exact QaO 31 (.tmp 201) rfl _ h0 _ (ld31 w6 _ _ _ _ _ (Qaa (hHs w6 hE).1 rfl)) ⟨RE.refl,_,rfl,rfl⟩
    | 8,hi,_ =>
     obtain rfl:=Option.some.inj hi;intro a1 w6 hE hoth hpre;exact QaO 33 (.tmp 25) rfl _ (hoth 25 (by decide)) _ (ld33 w6 _ _ _ _ _ _ _ _ _ _ _ _ _ _ _ _ (hHs w6 hE).2.2.1) ⟨RE.refl,_,rfl,rfl⟩
    | 9,hi,_ =>
     obtain rfl:=Option.some.inj hi;intro a1 w6 hE hoth hpre;have h0:=hpre {on:=8,ground:=.data} (by simp) rfl _ rfl;exact wpo_bs31 203 rfl _ _ _ _ _ _ _ _ _ _ _ _ _ _ _ h0 ⟨RE.alloc _,_,rfl,_,rfl,heap_alloc_new w6 _,(hHs w6 hE).2.2.2⟩
    | 10,hi,_ =>
     obtain rfl:=Option.some.inj hi;intro a1 w6 hE hoth hpre;have h1:=hpre {on:=7,ground:=.data} (by simp) rfl _ rfl;have h4:=hpre {on:=9,ground:=.data} (by simp) rfl _ rfl;obtain⟨blk,hb1,hb2,hb3⟩:=h4;exact QcX sl31 (.tmp 202) (.tmp 204) rfl (w.heap.size+3) _ i _ h1 (hE.b0 hB3) blk (xCells op' s' kd nn vs' vt (.slice pk nk ck) (.slice pp np cp) (.slice pl nl cl)).toList rfl hb1 (fun j u hj=>Qaa hb2 (by simpa using hj)) (Qh4 hpx3) (by unfold maxLen;omega) (by omega) (by have:=(hHs w6 hE).2.2.2;omega) (fun v' w' q1 q2 q3 q4 q5=>⟨RE.growB (hE.b0 hB3) q2 q3 q5,v',rfl,q1,q4.imp id (fun h k hk=>Nat.le_trans (hHs w6 hE).2.2.2 (h k hk))⟩)
    | 11,hi,_ =>
     obtain rfl:=Option.some.inj hi;intro a1 w6 hE hoth hpre;exact Qaw 33 (.tmp 22) 3 rfl _ (hoth 22 (by decide)) _ (Qe8 w6 _) ⟨RE.refl,_,rfl,rfl⟩
    | j+12,_,hj=>omega
   case hlast =>
    intro a1 W2 hF k;have h5:W2.ownsRow (w.heap.size+3) 9 1 (a1.tmps.getD 200 undef) (i+1) (ks (l.take i)++[.string key])∧((a1.tmps.getD 200 undef).ownBlock=(Value.slice pA i cA).ownBlock∨∀k,(a1.tmps.getD 200 undef).ownBlock=some k→w3.heap.size≤k):=hF.facts 5 _ rfl (by simp);have h10:W2.ownsRow (w.heap.size+3) 33 11 (a1.tmps.getD 205 undef) (i+1) (csB++(xCells op' s' kd nn vs' vt (.slice pk nk ck) (.slice pp np cp) (.slice pl nl cl)).toList)∧((a1.tmps.getD 205 undef).ownBlock=(Value.slice pB i cB).ownBlock∨∀k,(a1.tmps.getD 205 undef).ownBlock=some k→w3.heap.size≤k):=hF.facts 10 _ rfl (by simp)
    have h11:a1.tmps.getD 206 undef=.pointer (some ⟨w.heap.size+1+1,8,none⟩):=hF.facts 11 _ rfl (by simp);have h22:a1.tmps.getD 22 undef=.pointer (some ⟨w.heap.size+1+1,0,none⟩):=hF.other 22 (by decide);have hsz1:207<a1.tmps.size:=by rw[hF.size];exact Nat.le_of_ble_eq_true rfl
    have hE:=hF.ext;obtain⟨fs,hfr,_⟩:=hF.frame;clear hF;obtain⟨h10,hloc⟩:=h10;obtain⟨h5,hlocA⟩:=h5;obtain⟨p5,c5,hv5,-⟩:=RwU.own h5;obtain⟨p6,c6,hv10,-⟩:=RwU.own h10;rw[hv5]at h5 hlocA;rw[hv10]at h10 hloc;have hYW:W2.heap[w.heap.size+1+1]? =some (.cells (xCells 30 ⟨#[]⟩ 0 0 ⟨#[]⟩ ⟨#[]⟩ (.slice pA i cA) (.slice none 0 0) (.slice pB i cB)) 33 (0,0)):=hE.ext.heap (fun hS=>hS.elim (fun e=>by have:=hgeA _ e;omega) (fun e=>by have:=hgeB _ e;omega)) hY3
    have hY8:=Qac (o:=8) hYW (.slice p5 (i+1) c5);have hY10:=Qac (o:=10) hY8 (.slice p6 (i+1) c6);refine Qcu (k:=k+2) (i:=12) (by kernel_rfl) rfl rfl ?_;refine Qct 27 (.tmp 206) (.tmp 200) rfl _ h11 _ hv5 _ (st27 W2 _ _ _ _ _ _ (Qaa hYW rfl) (Qae hYW 8)) ?_;refine Qcu (k:=k+1) (i:=13) (by kernel_rfl) rfl rfl ?_;refine Qaw 33 (.tmp 22) 5 rfl _ h22 _ (Qe9 _ _) ?_;refine Qcu (k:=k) (i:=14) (by kernel_rfl) rfl rfl ?_
    refine Qct 31 (.tmp 207) (.tmp 205) rfl (.pointer (some ⟨w.heap.size+1+1,10,none⟩)) ?_ (.slice p6 (i+1) c6) ?_ _ (st31 _ _ _ _ _ _ _ (Qaa hY8 rfl) (Qae hY8 10)) ?_
    ·exact(QbJ a1 207 _ 207 hsz1).trans (if_pos rfl)
    ·exact((QbJ a1 207 _ 205 hsz1).trans (if_neg (by decide))).trans hv10
    refine Qd4 (by kernel_rfl) ?_ k;obtain⟨W9,hW9⟩:∃W9,(W2.setCell ⟨w.heap.size+1+1,8,none⟩ (.slice p5 (i+1) c5)).setCell ⟨w.heap.size+1+1,10,none⟩ (.slice p6 (i+1) c6)=W9:=⟨_,rfl⟩
    have hE9:Ext (·=w.heap.size+1+1) W2 W9:=by rw[←hW9];exact((Ext.refl (·=w.heap.size+1+1) W2).set (p:=⟨_,8,none⟩) (.inl rfl) _).set (p:=⟨_,10,none⟩) (.inl rfl) _
    rw[hW9]at hY10 ⊢;clear hW9 hY8;have hBall:Below w.heap.size w W9:=(((Ext.below (S:=fun _=>False) (HB.out.trans (B3.mono HB.out.size))).trans' hE.ext (fun d hd=>.inr (hd.elim (fun e=>by have:=hgeA _ e;omega) (fun e=>by have:=hgeB _ e;omega)))).trans' hE9 (fun d hd=>.inr (by omega))).toBelow (fun _ h=>h.elim) (Nat.le_refl _);have hR9:W9.heap[w.heap.size]? =some (.cells xZero 33 (0,0)):=hE9.heap (by omega) (hE.ext.heap (fun hS=>hS.elim (fun e=>by have:=hgeA _ e;omega) (fun e=>by have:=hgeB _ e;omega)) ((B3.block _ (Qad HR.out)).trans HR.out))
    have hz39:=B3.size;have hz2:=hE.ext.size;have hP3:=HP.out.after B3;have hPA:PxsIs W2 (fun d=>w.heap.size+3≤d∧(Value.slice p5 (i+1) c5).ownBlock≠some d∧(Value.slice p6 (i+1) c6).ownBlock≠some d) csB (ys.take i) :=
     hP3.ext hE.ext (fun d hd hlt'=>⟨fun hS=>hS.elim hd.2.1 hd.2.2,hd.1,fun e=>hlocA.elim (fun q=>hd.2.1 (q▸e)) (fun q=>by have:=q d e;omega),fun e=>hloc.elim (fun q=>hd.2.2 (q▸e)) (fun q=>by have:=q d e;omega)⟩)
    have hPB:PxIs W2 (fun d=>w.heap.size+3≤d∧(Value.slice p5 (i+1) c5).ownBlock≠some d∧(Value.slice p6 (i+1) c6).ownBlock≠some d) _ y :=
     hpx3.ext hE.ext (fun d hd hlt'=>⟨fun hS=>hS.elim (fun e=>by have:=hltA _ e;omega) (fun e=>by have:=hltB _ e;omega),by omega,fun e=>hlocA.elim (fun q=>by have:=hltA d (q▸e);omega) (fun q=>by have:=q d e;omega),fun e=>hloc.elim (fun q=>by have:=hltB d (q▸e);omega) (fun q=>by have:=q d e;omega)⟩)
    have hP9:=(hPA.snoc hPB).ext (U':=fun d=>w.heap.size+3≤d∧(Value.slice p5 (i+1) c5).ownBlock≠some d∧(Value.slice p6 (i+1) c6).ownBlock≠some d) hE9 (fun d hd _=>⟨by omega,hd⟩);have hkt:ks (l.take (i+1))=ks (l.take i)++[.string key]:=by rw[ks,ks,List.take_add_one,HX.out.1,Option.toList,List.map_append];rfl
    have hyt:ys.take (i+1)=ys.take i++[y]:=by rw[List.take_add_one,HX.out.2];rfl
    have HEND:Hid (RdRl w l ys (.int .i64 ((i:Int)+1)) W9):=Hi ⟨i+1,_,_,_,by go_num,by omega,hR9,hY10,by rw[hkt];exact Qaj h5 hE9 (fun d hd=>by omega),Qaj h10 hE9 (fun d hd=>by omega),by rw[hyt];exact hP9,hBall,by have:=hE9.size;omega⟩;clear hBall hR9 hP3 hPA hPB hP9 hkt hyt hlocA;subst hfr;rw[show Qbi _=[195,196,197,198,199,200,201,202,203,204,205,206,207]from rfl];simp (config:={decide:=true}) only[List.mapIdx_toArray,List.mapIdx_cons,List.mapIdx_nil,Nat.zero_add,Nat.reduceAdd,if_true,if_false,Act.put,List.setIfInBounds_toArray,List.set_cons_zero,List.set_cons_succ]
    clear h5 h10 hloc hv5 hv10 h11 h22 hsz1 hE hE9 hYW hY10;go_wp2;go_roundw
    case rel=>exact HEND.out
    case measure=>simp[intOf];omega
  ·obtain rfl:i=l.length:=by omega
   obtain⟨p5,c5,he5,hrA⟩:=RwU.own HA.out;cases he5;obtain⟨p6,c6,he6,hrB⟩:=RwU.own HBB.out;cases he6;have HRO:=Hi (And.intro hrA hrB);clear hrA hrB;have k0:wr.cell? ⟨w.heap.size+1+1,0,none⟩=some (.int .i64 30):=Qaa hY rfl;have k1:wr.cell? ⟨w.heap.size+1+1,1,none⟩=some (.string ⟨#[]⟩):=Qaa hY rfl;have k2:wr.cell? ⟨w.heap.size+1+1,2,none⟩=some (.int .i64 0):=Qaa hY rfl;have k3:wr.cell? ⟨w.heap.size+1+1,3,none⟩=some (.int .i64 0):=Qaa hY rfl
   have k4:wr.cell? ⟨w.heap.size+1+1,4,none⟩=some (.string ⟨#[]⟩):=Qaa hY rfl;have k5:wr.cell? ⟨w.heap.size+1+1,5,none⟩=some (.string ⟨#[]⟩):=Qaa hY rfl;have k6:wr.cell? ⟨w.heap.size+1+1,6,none⟩=some (.slice none 0 0):=Qaa hY rfl;have k7:wr.cell? ⟨w.heap.size+1+1,7,none⟩=some (.slice none 0 0):=Qaa hY rfl;have k8:wr.cell? ⟨w.heap.size+1+1,8,none⟩=some (.slice pA l.length cA):=Qaa hY rfl;have k9:wr.cell? ⟨w.heap.size+1+1,9,none⟩=some (.slice none 0 0):=Qaa hY rfl
   have k10:wr.cell? ⟨w.heap.size+1+1,10,none⟩=some (.slice pB l.length cB):=Qaa hY rfl;clear hY;obtain⟨e0,e1,e2,e3,e4,e5,e6,e7,e8,e9,e10,f0,f1,f2,f3,f4,f5,f6,f7,f8,f9,f10⟩:=Qa6 HR.out
   go_wp2_with fail
   obtain⟨w9,hw9,h9,hE⟩:=Qch HR.out rfl (.int .i64 30) (.string ⟨#[]⟩) (.int .i64 0) (.int .i64 0) (.string ⟨#[]⟩) (.string ⟨#[]⟩) (.slice none 0 0) (.slice none 0 0) (.slice pA l.length cA) (.slice none 0 0) (.slice pB l.length cB);rw[hw9];clear hw9;refine Qbp _ 2 3 (by kernel_rfl) rfl rfl rfl h9 rfl ?_;have hyl:=HLEN.out;refine⟨((Ext.below (S:=fun _=>False) HB.out).trans' hE (fun d hd=>by omega)).toBelow (fun _ h=>h.elim) (Nat.le_refl _),_,?_,rfl⟩
   have hP:=HP.out;rw[List.take_of_length_le (by omega)]at hP;obtain⟨hrA,hrB⟩:=HRO.out;rw[List.take_of_length_le (Nat.le_refl _)]at hrA;have hA':=hrA.ext (U':=(w.heap.size≤·)) hE (fun d hd _=>by omega);have hB':=hrB.ext (U':=(w.heap.size≤·)) hE (fun d hd _=>by omega);have hkl:(l.map (·.1)).length=l.length:=List.length_map ..;have hks:(l.map (·.1)).map Value.string=ks l:=by rw[List.map_map];rfl
   have hfin:PxIs w9 (w.heap.size≤·) [.int .i64 30,.string ⟨#[]⟩,.int .i64 0,.int .i64 0,.string ⟨#[]⟩,.string ⟨#[]⟩,.slice none 0 0,.slice none 0 0,.slice pA (l.map (·.1)).length cA,.slice none 0 0,.slice pB ys.length cB] (.mk 30 ⟨#[]⟩ pv0 (l.map (·.1)) [] ys) :=
    .mk 30 ⟨#[]⟩ pv0 (l.map (·.1)) [] ys pA none pB cA 0 cB csB (by rw[hkl,hks];exact hA') .nil (by rw[hyl];exact hB') (fun i a hi=>(hP.2 i a hi).ext hE (fun d hd _=>by omega))
   rw[hkl,hyl]at hfin;exact hfin
end Go.Proofs.Pg
namespace Go.Proofs.Pg
open Go.RowKit
def binC(op:Nat):Int:=((binT.find? fun p=>p.1==op).map (·.2)).getD 0
mutual
def toP:Ex→PEx
 | .val v=>.mk 1 ⟨#[]⟩ (toV v) [] [] []
 | .var s=>.mk 2 s pv0 [] [] []
 | .ite a b c=>.mk 3 ⟨#[]⟩ pv0 [] [] [toP a,toP b,toP c]
 | .bin op a b=>.mk (binC op) ⟨#[]⟩ pv0 [] [] [toP a,toP b]
 | .una op a=>.mk (if op=208 then 21 else if op=209 then 22 else 29) ⟨#[]⟩ pv0 [] [] [toP a]
 | .sop op a s=>.mk (if op=193 then 13 else if op=194 then 23 else 16) s pv0 [] [] [toP a]
 | .isIn a s b=>.mk 17 s pv0 [] [] [toP a,toP b]
 | .like a p=>.mk 15 ⟨#[]⟩ pv0 [] (QaN p) [toP a]
 | .call s l=>.mk 25 s pv0 [] [] (toPs l)
 | .set l=>.mk 31 ⟨#[]⟩ pv0 [] [] (toPs l)
 | .recd l=>.mk 30 ⟨#[]⟩ pv0 (l.map (·.1)) [] (toPr l)
def toPs:List Ex→List PEx
 | []=>[]
 | a::l=>toP a::toPs l
def toPr:List (ByteArray×Ex)→List PEx
 | []=>[]
 | (_,a)::l=>toP a::toPr l
end
theorem Qej(l:List Ex):toPs l=l.map toP:=by
 induction l with
 | nil=>rfl
 | cons a l ih=>rw[toPs,ih];rfl
theorem QfA(l:List (ByteArray×Ex)):toPr l=l.map fun p=>toP p.2:=by
 induction l with
 | nil=>rfl
 | cons a l ih=>obtain⟨k,a⟩:=a;rw[toPr,ih];rfl
inductive OkE:Ex→Prop
 | val (v:Vl):OkE (.val v)
 | var (s:ByteArray):OkE (.var s)
 | ite {a b c:Ex}(h1:OkE a)(h2:OkE b)(h3:OkE c):OkE (.ite a b c)
 | bin {op:Nat}{a b:Ex}(ho:(op,binC op)∈binT)(h1:OkE a)(h2:OkE b):OkE (.bin op a b)
 | una {op:Nat}{a:Ex}(ho:op=208∨op=209∨op=210)(h1:OkE a):OkE (.una op a)
 | sop {op:Nat}{a:Ex}{s:ByteArray}(ho:op=193∨op=194∨op=202)(h1:OkE a):OkE (.sop op a s)
 | isIn {a b:Ex}{s:ByteArray}(h1:OkE a)(h2:OkE b):OkE (.isIn a s b)
 | like {a:Ex}{p:List (Bool×ByteArray)}(hp:p.length≤10000000)(h1:OkE a):OkE (.like a p)
 | call {s:ByteArray}{l:List Ex}(hl:l.length≤1000000)(h:∀a∈l,OkE a):OkE (.call s l)
 | set {l:List Ex}(hl:l.length≤1000000)(h:∀a∈l,OkE a):OkE (.set l)
 | recd {l:List (ByteArray×Ex)}(hl:l.length≤1000000)(h:∀a∈l,OkE a.2):OkE (.recd l)
theorem expr_px{x:Ex}(h:OkE x):PxC x (toP x):=by
 induction h with
 | val v=>rw[toP];exact px_val v
 | var s=>rw[toP];exact px_var s
 | ite _ _ _ i1 i2 i3=>rw[toP];exact px_ite i1 i2 i3
 | bin ho _ _ i1 i2=>rw[toP];exact px_bin i1 i2 _ _ ho
 | una ho _ i1 =>
  rw[toP];rcases ho with rfl | rfl | rfl
  ·exact px_u208 i1
  ·exact px_u209 i1
  ·exact px_u210 i1
 | sop ho _ i1 =>
  rw[toP];rcases ho with rfl | rfl | rfl
  ·exact px_s193 i1 _
  ·exact px_s194 i1 _
  ·exact px_s202 i1 _
 | isIn _ _ i1 i2=>rw[toP];exact px_isin i1 i2 _
 | like hp _ i1=>rw[toP];exact px_like i1 _ hp
 | call hl _ ih =>
  rw[toP,Qej];exact px_call (by simp) (fun i a y h1 h2=>by
   rw[List.getElem?_map,h1]at h2;cases h2;exact ih a (List.mem_of_getElem? h1)) _ hl
 | set hl _ ih =>
  rw[toP,Qej];exact px_set (by simp) (fun i a y h1 h2=>by
   rw[List.getElem?_map,h1]at h2;cases h2;exact ih a (List.mem_of_getElem? h1)) hl
 | recd hl _ ih =>
  rw[toP,QfA];exact px_recd (by simp) (fun i a y h1 h2=>by
   rw[List.getElem?_map,h1]at h2;cases h2;exact ih a (List.mem_of_getElem? h1)) hl
end Go.Proofs.Pg
namespace Go.Proofs.Pg
open Go.RowKit
attribute [local go_sem] Oper.semAt_some
theorem BytesAt.drop{w:World}{b off:Nat}{l:List UInt8}(h:BytesAt w b off l)(i:Nat):BytesAt w b (off+i) (l.drop i):=by
 intro j hj;rw[List.length_drop]at hj;have:=h (i+j) (by omega);rw[QbA,Nat.add_assoc];exact this
def nrM(l:List UInt8)(i:Nat):Option (Nat×Nat):=if(dec (l.drop i)).1=65533 then none else some ((dec (l.drop i)).1,i+(dec (l.drop i)).2)
def NrP(w:World)(i:Nat)(R:Option (Nat×Nat))(e:Ending)(w':World):Prop :=
 Below w.heap.size w w'∧match R with
 | none=>∃T x,e=.returned (.tuple #[.int .i32 65533,.int .i64 i,.iface T x])
 | some r=>e=.returned (.tuple #[.int .i32 r.1,.int .i64 r.2,.nilIface])
theorem Qgk(l:List UInt8)(b off cap i:Nat)(w:World)(hT:Lib.Utf8Tabs 1 2 w)(hc:BytesAt w b off l)(hb:b<w.heap.size)(hlen:l.length≤1000000)(hi:i<l.length)(hcap:l.length≤cap)(hcm:cap≤maxLen) :
  Calls Tryz.prog 187 #[.slice (some ⟨b,off,none⟩) l.length cap,.int .i64 i] w (NrP w i (nrM l i)):=by
 have HC:=Hi (hc.drop i);clear hc;have HD:=Hi (show(l.drop i).length=l.length-i from List.length_drop);have g1:¬cap=i:=by omega
 go_enter Tryz.func187,Tryz.ntmps187;have hne:l.drop i≠[]:=fun e=>by have:=HD.out;rw[e]at this;simp at this;omega
 have hd:=Qdu (l.drop i) b (off+i) (cap-i) w hT HC.out hb (by rw[HD.out];omega);rw[HD.out]at hd;obtain⟨k1,k2,k3⟩:=Qco hne;have k4:=Qed (l.drop i);have HN:Hid (nrM l i=if(dec (l.drop i)).1=65533 then none else some ((dec (l.drop i)).1,i+(dec (l.drop i)).2)):=Hi rfl;have HDD:=Hi hd;clear hd;generalize dec (l.drop i)=de at *;obtain⟨r,z⟩:=de;simp only at k1 k2 k3 k4;have k5:z≤l.length-i:=by have:=HD.out;omega
 clear k2
 go_wp2_with fail
 refine HDD.out.mono ?_;rintro e w1⟨rfl,B1⟩;have HB1:=Hi B1;clear B1;by_cases hr:r=65533
 ·subst hr
  go_wp2_with fail
  refine(QaV _ w1).mono ?_;rintro e w2⟨T,x,rfl,B2⟩;have HB2:=Hi B2;clear B2
  go_wp2_with fail
  refine bodyPost_ret (results_tmp3 (t:=4) (u:=5) (v:=6) (by kernel_rfl) _ _ _) rfl ?_;rw[HN.out];exact⟨HB1.out.trans (HB2.out.mono HB1.out.size),T,x,rfl⟩
 ·have e1:((r:Int)==65533)=false:=by simp;omega
  have e2:¬(r:Int)=65533:=by omega
  have HR:=Hi hr;clear hr
  go_wp2_with fail
  refine bodyPost_ret (results_tmp3 (t:=4) (u:=5) (v:=6) (by kernel_rfl) _ _ _) rfl ?_;rw[HN.out,if_neg HR.out];refine⟨HB1.out,?_⟩;simp only[Int.natCast_add];rfl
theorem QeA(n:Nat)(b off cap:Nat)(w:World)(hT:Lib.Utf8Tabs 1 2 w)(hb:b<w.heap.size)(hlen:n≤1000000)(hcap:n≤cap)(hcm:cap≤maxLen) :
  Calls Tryz.prog 187 #[.slice (some ⟨b,off,none⟩) n cap,.int .i64 n] w (NrP w n none):=by
 have hd:∀o c,Calls Tryz.prog 161 #[.slice (some ⟨b,o,none⟩) 0 c] w fun e w'=>e=.returned (.tuple #[.int .i32 65533,.int .i64 0])∧Below w.heap.size w w':=fun o c=>Qdu [] b o c w hT (fun j hj=>absurd hj (Nat.not_lt_zero _)) hb (Nat.zero_le _)
 have HD:=Hi hd;clear hd;by_cases g1:cap=n
 ·go_enter Tryz.func187,Tryz.ntmps187
  go_wp2_with fail
  refine(HD.out _ _).mono ?_;rintro e w1⟨rfl,B1⟩;have HB1:=Hi B1;clear B1
  go_wp2_with fail
  refine(QaV _ w1).mono ?_;rintro e w2⟨T,x,rfl,B2⟩;have HB2:=Hi B2;clear B2
  go_wp2_with fail
  refine bodyPost_ret (results_tmp3 (t:=4) (u:=5) (v:=6) (by kernel_rfl) _ _ _) rfl ?_;exact⟨HB1.out.trans (HB2.out.mono HB1.out.size),T,x,rfl⟩
 ·go_enter Tryz.func187,Tryz.ntmps187
  go_wp2_with fail
  refine(HD.out _ _).mono ?_;rintro e w1⟨rfl,B1⟩;have HB1:=Hi B1;clear B1
  go_wp2_with fail
  refine(QaV _ w1).mono ?_;rintro e w2⟨T,x,rfl,B2⟩;have HB2:=Hi B2;clear B2
  go_wp2_with fail
  refine bodyPost_ret (results_tmp3 (t:=4) (u:=5) (v:=6) (by kernel_rfl) _ _ _) rfl ?_;exact⟨HB1.out.trans (HB2.out.mono HB1.out.size),T,x,rfl⟩
def digV(c:Int):Int:=if 48≤c∧c≤57 then c-48 else if 97≤Qc9 c∧Qc9 c≤102 then Qc9 c-87 else 16
theorem Qfj(c:Int)(w:World):Calls Tryz.prog 204 #[.int .i32 c] w fun e w'=>e=.returned (.int .i64 (digV c))∧w'=w:=by
 have HI:=Hi (show digV c=(if 48≤c∧c≤57 then c-48 else if 97≤Qc9 c∧Qc9 c≤102 then Qc9 c-87 else 16)from rfl);have HL:Hid (∀w,Calls Tryz.prog 214 #[.int .i32 c] w fun e w'=>e=.returned (.int .i32 (Qc9 c))∧w'=w):=Hi (Qho c);generalize digV c=B at *;generalize Qc9 c=L at *;by_cases h1:48≤c
 all_goals by_cases h2:c≤57
 all_goals by_cases h3:97≤L
 all_goals by_cases h4:L≤102
 all_goals
  go_enter Tryz.func204,Tryz.ntmps204
  go_wp2_with(go_at_call 214;refine(HL.out _).mono ?_;rintro e w' ⟨rfl,rfl⟩)
  all_goals
   go_ret;refine⟨?_,rfl⟩;rw[HI.out];show Ending.returned (Value.int IntKind.i64 _)=Ending.returned (Value.int IntKind.i64 _)
   congr 2
   first
    | (rw[if_pos ⟨by omega,by omega⟩];done)
    | (rw[if_neg (by omega),if_pos ⟨by omega,by omega⟩];omega)
    | (rw[if_neg (by omega),if_neg (by omega)];done)
def nrX(l:List UInt8)(i:Nat):Option (Nat×Nat):=if i<l.length then nrM l i else none
theorem QbK(l:List UInt8)(b off cap i:Nat)(w:World)(hT:Lib.Utf8Tabs 1 2 w)(hc:BytesAt w b off l)(hb:b<w.heap.size)(hlen:l.length≤1000000)(hi:i≤l.length)(hcap:l.length≤cap)(hcm:cap≤maxLen) :
  Calls Tryz.prog 187 #[.slice (some ⟨b,off,none⟩) l.length cap,.int .i64 i] w (NrP w i (nrX l i)):=by
 unfold nrX;by_cases h:i<l.length
 ·rw[if_pos h]
  exact Qgk l b off cap i w hT hc hb hlen h hcap hcm
 ·rw[if_neg h,show i=l.length by omega]
  exact QeA l.length b off cap w hT hb hlen hcap hcm
theorem QbF{l:List UInt8}{i:Nat}{r:Nat×Nat}(h:nrX l i=some r):i<r.2∧r.2≤l.length∧r.1<2097152:=by
 unfold nrX at h;split at h
 ·rename_i hi
  unfold nrM at h;split at h
  ·cases h
  ·cases h
   have hne:l.drop i≠[]:=fun e=>by have:=congrArg List.length e;simp at this;omega
   obtain⟨k1,k2,k3⟩:=Qco hne;rw[List.length_drop]at k2;have:=Qed (l.drop i);simp only;omega
 ·cases h
def hexE(l:List UInt8)(i:Nat):Option (Int×Nat):=match nrX l i with
 | none=>none
 | some a=>if Qc1 a.1=true then(match nrX l a.2 with
  | none=>none
  | some b=>if Qc1 b.1=true then(if 127<16*digV a.1+digV b.1 then none else some (16*digV a.1+digV b.1,b.2))else none)else none
def EscP(w:World)(R:Option (Int×Nat))(e:Ending)(w':World):Prop :=
 Below w.heap.size w w'∧match R with
 | none=>∃v i T x,e=.returned (.tuple #[v,i,.iface T x])
 | some r=>e=.returned (.tuple #[.int .i32 r.1,.int .i64 r.2,.nilIface])
theorem Qd5(c:Int):0≤digV c∧digV c≤16:=by
 unfold digV;split
 ·omega
 ·split<;>omega
theorem QfB(l:List UInt8)(b off cap i:Nat)(w:World)(hT:Lib.Utf8Tabs 1 2 w)(hc:BytesAt w b off l)(hb:2<b∧b<w.heap.size)(hlen:l.length≤1000000)(hi:i≤l.length)(hcap:l.length≤cap)(hcm:cap≤maxLen) :
  Calls Tryz.prog 190 #[.slice (some ⟨b,off,none⟩) l.length cap,.int .i64 i] w (EscP w (hexE l i)):=by
 have HN:Hid (∀w',Below w.heap.size w w'→∀j,j≤l.length→Calls Tryz.prog 187 #[.slice (some ⟨b,off,none⟩) l.length cap,.int .i64 j] w' (NrP w' j (nrX l j))):=Hi fun w' hB j hj=>QbK l b off cap j w' (Qbg hT (Ext.below (S:=fun _=>False) hB) (fun h=>h) (fun h=>h)) (fun k hk=>(Ext.below (S:=fun _=>False) hB).cell (p:=⟨b,off+k,none⟩) (fun h=>h) (hc k hk)) (Nat.lt_of_lt_of_le hb.2 hB.size) hlen hj hcap hcm
 have HM:Hid (hexE l i=match nrX l i with
  | none=>none
  | some a=>if Qc1 a.1=true then(match nrX l a.2 with
   | none=>none
   | some b=>if Qc1 b.1=true then(if 127<16*digV a.1+digV b.1 then none else some (16*digV a.1+digV b.1,b.2))else none)else none):=Hi rfl
 generalize hexE l i=Res at *;clear hT hc hb;go_enter Tryz.func190,Tryz.ntmps190
 go_wp2_with fail
 refine(HN.out w (Below.refl _ _) i hi).mono ?_;rintro e w1⟨B1,h1⟩;have HB1:=Hi B1;clear B1;cases hn1:nrX l i with
 | none =>
  rw[hn1]at h1;have HR:Hid (Res=none):=Hi (by rw[HM.out,hn1]);obtain⟨T,x,rfl⟩:=h1;clear hn1
  go_wp2_with fail
  refine bodyPost_ret (results_tmp3 (t:=4) (u:=5) (v:=6) (by kernel_rfl) _ _ _) rfl ?_;rw[HR.out];exact⟨HB1.out,_,_,_,_,rfl⟩
 | some a =>
  rw[hn1]at h1;subst h1;have ha:=QbF hn1;have HN1:=Hi hn1;clear hn1;obtain⟨a1,a2⟩:=a;simp only at ha
  go_wp2_with fail
  refine(Qhp _ w1).mono ?_;rintro e w1'⟨rfl,rfl⟩;cases hx1:Qc1 a1 with
  | false =>
   have HR:Hid (Res=none):=Hi (by rw[HM.out,HN1.out];simp only;rw[if_neg (by rw[hx1];decide)]);clear hx1
   go_wp2_with fail
   refine(QaV _ w1').mono ?_;rintro e w2⟨T,x,rfl,B2⟩;have HB2:=Hi B2;clear B2
   go_wp2_with fail
   refine bodyPost_ret (results_tmp3 (t:=4) (u:=5) (v:=6) (by kernel_rfl) _ _ _) rfl ?_;rw[HR.out];exact⟨HB1.out.trans (HB2.out.mono HB1.out.size),_,_,_,_,rfl⟩
  | true =>
   have HX1:=Hi hx1;clear hx1
   go_wp2_with fail
   refine(Qfj _ w1').mono ?_;rintro e w2⟨rfl,rfl⟩;have hd1:=Qd5 a1
   go_wp2_with fail
   refine(HN.out w2 HB1.out a2 ha.2.1).mono ?_;rintro e w3⟨B3,h3⟩;have HB3:Hid (Below w.heap.size w w3):=Hi (HB1.out.trans (B3.mono HB1.out.size));clear B3;cases hn2:nrX l a2 with
   | none =>
    rw[hn2]at h3;have HR:Hid (Res=none):=Hi (by rw[HM.out,HN1.out];simp only;rw[if_pos HX1.out,hn2]);obtain⟨T,x,rfl⟩:=h3;clear hn2
    go_wp2_with fail
    refine bodyPost_ret (results_tmp3 (t:=4) (u:=5) (v:=6) (by kernel_rfl) _ _ _) rfl ?_;rw[HR.out];exact⟨HB3.out,_,_,_,_,rfl⟩
   | some c =>
    rw[hn2]at h3;subst h3;obtain⟨c1,c2⟩:=c;have HR1:Hid (Res=if Qc1 c1=true then(if 127<16*digV a1+digV c1 then none else some (16*digV a1+digV c1,c2))else none):=Hi (by rw[HM.out,HN1.out];simp only;rw[if_pos HX1.out,hn2]);clear hn2
    go_wp2_with fail
    refine(Qhp _ w3).mono ?_;rintro e w3'⟨rfl,rfl⟩;cases hx2:Qc1 c1 with
    | false =>
     have HR:Hid (Res=none):=Hi (by rw[HR1.out,if_neg (by rw[hx2];decide)]);clear hx2
     go_wp2_with fail
     refine(QaV _ w3').mono ?_;rintro e w4⟨T,x,rfl,B2⟩;have HB2:=Hi B2;clear B2
     go_wp2_with fail
     refine bodyPost_ret (results_tmp3 (t:=4) (u:=5) (v:=6) (by kernel_rfl) _ _ _) rfl ?_;rw[HR.out];exact⟨HB3.out.trans (HB2.out.mono HB3.out.size),_,_,_,_,rfl⟩
    | true =>
     have HX2:=Hi hx2;clear hx2
     go_wp2_with fail
     refine(Qfj _ w3').mono ?_;rintro e w4⟨rfl,rfl⟩;have hd2:=Qd5 c1;have HR2:Hid (Res=if 127<16*digV a1+digV c1 then none else some (16*digV a1+digV c1,c2)):=Hi (by rw[HR1.out,if_pos HX2.out]);generalize digV a1=p1 at *;generalize digV c1=p2 at *;by_cases hbig:127<16*p1+p2
     ·have HR:Hid (Res=none):=Hi (by rw[HR2.out,if_pos hbig])
      go_wp2_with fail
      refine(QaV _ w4).mono ?_;rintro e w5⟨T,x,rfl,B2⟩;have HB2:=Hi B2;clear B2
      go_wp2_with fail
      refine bodyPost_ret (results_tmp3 (t:=4) (u:=5) (v:=6) (by kernel_rfl) _ _ _) rfl ?_;rw[HR.out];exact⟨HB3.out.trans (HB2.out.mono HB3.out.size),_,_,_,_,rfl⟩
     ·have HR:Hid (Res=some (16*p1+p2,c2)):=Hi (by rw[HR2.out,if_neg hbig])
      go_wp2_with fail
      refine bodyPost_ret (results_tmp3 (t:=4) (u:=5) (v:=6) (by kernel_rfl) _ _ _) rfl ?_;rw[HR.out];exact⟨HB3.out,rfl⟩
def uniL(l:List UInt8):Nat→Nat→Int→Nat→Option (Nat×Int×Nat)
 | 0,_,_,_=>none
 | f+1,k,v,i=>match nrX l i with
  | none=>none
  | some a=>if a.1=125 then some (k,v,a.2)else if Qc1 a.1=true then uniL l f (k+1) (16*v+digV a.1) a.2 else none
def uniE(l:List UInt8)(i:Nat):Option (Int×Nat):=match nrX l i with
 | none=>none
 | some a=>if a.1=123 then(match uniL l (l.length+1) 0 0 a.2 with
  | none=>none
  | some p=>if p.1=0∨6<p.1 then none else if Lib.validRune p.2.1=true then some (p.2.1,p.2.2)else none)else none
def uB:Nat→Int
 | 0=>0
 | k+1=>16*uB k+16
theorem uB_6{k:Nat}(h:k≤6):uB k≤17895696:=by
 match k,h with
 | 0,_=>decide
 | 1,_=>decide
 | 2,_=>decide
 | 3,_=>decide
 | 4,_=>decide
 | 5,_=>decide
 | 6,_=>decide
def UnRel(l:List UInt8)(Res:Option (Nat×Int×Nat))(w0:World)(s1 s9 s10:Value)(wr:World):Prop :=
 ∃f k v i u,s1=.int .i64 ((i:Nat):Int)∧s9=.int .i64 ((k:Nat):Int)∧s10=.int .i64 u∧uniL l f k v i=Res∧l.length-i<f∧i≤l.length∧k≤i∧(k≤6→u=v∧0≤v∧v≤uB k)∧Below w0.heap.size w0 wr
theorem QfC(l:List UInt8)(b off cap i:Nat)(w:World)(hT:Lib.Utf8Tabs 1 2 w)(hc:BytesAt w b off l)(hb:2<b∧b<w.heap.size)(hlen:l.length≤1000000)(hi:i≤l.length)(hcap:l.length≤cap)(hcm:cap≤maxLen) :
  Calls Tryz.prog 191 #[.slice (some ⟨b,off,none⟩) l.length cap,.int .i64 i] w (EscP w (uniE l i)):=by
 have HN:Hid (∀w',Below w.heap.size w w'→∀j,j≤l.length→Calls Tryz.prog 187 #[.slice (some ⟨b,off,none⟩) l.length cap,.int .i64 j] w' (NrP w' j (nrX l j))):=Hi fun w' hB j hj=>QbK l b off cap j w' (Qbg hT (Ext.below (S:=fun _=>False) hB) (fun h=>h) (fun h=>h)) (fun k hk=>(Ext.below (S:=fun _=>False) hB).cell (p:=⟨b,off+k,none⟩) (fun h=>h) (hc k hk)) (Nat.lt_of_lt_of_le hb.2 hB.size) hlen hj hcap hcm
 have HM:Hid (uniE l i=match nrX l i with
  | none=>none
  | some a=>if a.1=123 then(match uniL l (l.length+1) 0 0 a.2 with
   | none=>none
   | some p=>if p.1=0∨6<p.1 then none else if Lib.validRune p.2.1=true then some (p.2.1,p.2.2)else none)else none):=Hi rfl
 generalize uniE l i=Res at *;clear hT hc hb;go_enter Tryz.func191,Tryz.ntmps191
 go_wp2_with fail
 refine(HN.out w (Below.refl _ _) i hi).mono ?_;rintro e w1⟨B1,h1⟩;have HB1:=Hi B1;clear B1;cases hn1:nrX l i with
 | none =>
  rw[hn1]at h1;have HR:Hid (Res=none):=Hi (by rw[HM.out,hn1]);obtain⟨T,x,rfl⟩:=h1;clear hn1
  go_wp2_with fail
  refine bodyPost_ret (results_tmp3 (t:=4) (u:=5) (v:=6) (by kernel_rfl) _ _ _) rfl ?_;rw[HR.out];exact⟨HB1.out,_,_,_,_,rfl⟩
 | some a =>
  rw[hn1]at h1;subst h1;have ha:=QbF hn1;have HN1:=Hi hn1;clear hn1;obtain⟨a1,a2⟩:=a;simp only at ha;by_cases h123:a1=123
  ·subst h123
   have HM1:Hid (Res=match uniL l (l.length+1) 0 0 a2 with
    | none=>none
    | some p=>if p.1=0∨6<p.1 then none else if Lib.validRune p.2.1=true then some (p.2.1,p.2.2)else none):=Hi (by rw[HM.out,HN1.out];simp only[if_true])
   clear HM HN1
   go_wp2_with fail
   have HQ:Hid (UnRel l (uniL l (l.length+1) 0 0 a2) w (.int .i64 a2) (.int .i64 0) (.int .i64 0) w1):=Hi ⟨l.length+1,0,0,a2,0,rfl,rfl,rfl,rfl,by omega,ha.2.1,Nat.zero_le _,fun _=>⟨rfl,Int.le_refl _,Int.le_refl _⟩,HB1.out⟩;generalize uniL l (l.length+1) 0 0 a2=Ru at *
   go_loopw [1,9,10] (fun s1 s9 s10 wr=>UnRel l Ru w s1 s9 s10 wr) (fun s1 _ _ _=>l.length-(intOf s1).toNat)
   case atStart=>exact HQ.out
   case round =>
    clear HQ;obtain⟨f,k,v,i,u,rfl,rfl,rfl,hu,hf,hil,hki,hv,hB⟩:=hrel;obtain⟨f,rfl⟩:∃g,f=g+1:=⟨f-1,by omega⟩
    rw[uniL]at hu;have HU:=Hi hu;clear hu;have HV:=Hi hv;clear hv;have HB:=Hi hB;clear hB
    go_wp2_with fail
    refine(HN.out _ HB.out i hil).mono ?_;rintro e w2⟨B2,h2⟩;have HB2:Hid (Below w.heap.size w w2):=Hi (HB.out.trans (B2.mono HB.out.size));clear B2;cases hn2:nrX l i with
    | none =>
     rw[hn2]at h2;have HR:Hid (Res=none):=Hi (by have:=HU.out;rw[hn2]at this;rw[HM1.out,←this]);obtain⟨T,x,rfl⟩:=h2;clear hn2
     go_wp2_with fail
     refine bodyPost_ret (results_tmp3 (t:=4) (u:=5) (v:=6) (by kernel_rfl) _ _ _) rfl ?_;rw[HR.out];exact⟨HB2.out,_,_,_,_,rfl⟩
    | some c =>
     rw[hn2]at h2;subst h2;have hcc:=QbF hn2;obtain⟨c1,c2⟩:=c;simp only at hcc;have HU1:Hid ((if c1=125 then some (k,v,c2)else if Qc1 c1=true then uniL l f (k+1) (16*v+digV c1) c2 else none)=Ru):=Hi (by have:=HU.out;rw[hn2]at this;exact this);clear hn2 HU;by_cases h125:c1=125
     ·subst h125
      have HU2:Hid (Res=if k=0∨6<k then none else if Lib.validRune v=true then some (v,c2)else none):=Hi (by have:=HU1.out;rw[if_pos rfl]at this;rw[HM1.out,←this]);clear HU1;by_cases hk0:k=0
      ·have HR:Hid (Res=none):=Hi (by rw[HU2.out,if_pos (.inl hk0)])
       subst hk0
       go_wp2_with fail
       refine(QaV _ w2).mono ?_;rintro e w3⟨T,x,rfl,B3⟩;have HB3:=Hi B3;clear B3
       go_wp2_with fail
       refine bodyPost_ret (results_tmp3 (t:=4) (u:=5) (v:=6) (by kernel_rfl) _ _ _) rfl ?_;rw[HR.out];exact⟨HB2.out.trans (HB3.out.mono HB2.out.size),_,_,_,_,rfl⟩
      ·have hkp:0<k:=by omega
       have e0:(((k:Nat):Int)==0)=false:=by simp;omega
       clear hk0;by_cases hk6:6<k
       ·have HR:Hid (Res=none):=Hi (by rw[HU2.out,if_pos (.inr hk6)])
        go_wp2_with fail
        refine(QaV _ w2).mono ?_;rintro e w3⟨T,x,rfl,B3⟩;have HB3:=Hi B3;clear B3
        go_wp2_with fail
        refine bodyPost_ret (results_tmp3 (t:=4) (u:=5) (v:=6) (by kernel_rfl) _ _ _) rfl ?_;rw[HR.out];exact⟨HB2.out.trans (HB3.out.mono HB2.out.size),_,_,_,_,rfl⟩
       ·obtain⟨hv1,hv2,hv3⟩:=HV.out (by omega)
        have hv4:=uB_6 (k:=k) (by omega);have hv5:v≤17895696:=by omega
        obtain rfl:=hv1;clear hv3 hv4;have HR1:Hid (Res=if Lib.validRune u=true then some (u,c2)else none):=Hi (by rw[HU2.out,if_neg (by omega)])
        go_wp2_with fail
        refine(Tryz.utf8_ValidRune u w2).mono ?_;rintro e w2'⟨rfl,rfl⟩;cases hvr:Lib.validRune u with
        | false =>
         have HR:Hid (Res=none):=Hi (by rw[HR1.out,hvr];rfl);clear hvr
         go_wp2_with fail
         refine(QaV _ w2').mono ?_;rintro e w3⟨T,x,rfl,B3⟩;have HB3:=Hi B3;clear B3
         go_wp2_with fail
         refine bodyPost_ret (results_tmp3 (t:=4) (u:=5) (v:=6) (by kernel_rfl) _ _ _) rfl ?_;rw[HR.out];exact⟨HB2.out.trans (HB3.out.mono HB2.out.size),_,_,_,_,rfl⟩
        | true =>
         have HR:Hid (Res=some (u,c2)):=Hi (by rw[HR1.out,hvr];rfl);clear hvr
         go_wp2_with fail
         refine bodyPost_ret (results_tmp3 (t:=4) (u:=5) (v:=6) (by kernel_rfl) _ _ _) rfl ?_;rw[HR.out];exact⟨HB2.out,rfl⟩
     ·have e1:((c1:Int)==125)=false:=by simp;omega
      have e2:¬(c1:Int)=125:=by omega
      have HU2:Hid ((if Qc1 c1=true then uniL l f (k+1) (16*v+digV c1) c2 else none)=Ru):=Hi (by have:=HU1.out;rw[if_neg h125]at this;exact this);clear HU1 h125
      go_wp2_with fail
      refine(Qhp _ w2).mono ?_;rintro e w2'⟨rfl,rfl⟩;cases hx1:Qc1 c1 with
      | false =>
       have HR:Hid (Res=none):=Hi (by have:=HU2.out;rw[hx1]at this;rw[HM1.out,←this];rfl);clear hx1
       go_wp2_with fail
       refine(QaV _ w2').mono ?_;rintro e w3⟨T,x,rfl,B3⟩;have HB3:=Hi B3;clear B3
       go_wp2_with fail
       refine bodyPost_ret (results_tmp3 (t:=4) (u:=5) (v:=6) (by kernel_rfl) _ _ _) rfl ?_;rw[HR.out];exact⟨HB2.out.trans (HB3.out.mono HB2.out.size),_,_,_,_,rfl⟩
      | true =>
       have HU3:Hid (uniL l f (k+1) (16*v+digV c1) c2=Ru):=Hi (by have:=HU2.out;rw[hx1,if_pos rfl]at this;exact this);clear hx1 HU2;have hd1:=Qd5 c1;have HD:Hid (∀w,Calls Tryz.prog 204 #[.int .i32 ((c1:Nat):Int)] w fun e w'=>e=.returned (.int .i64 (digV c1))∧w'=w):=Hi (Qfj c1);generalize digV c1=d at *;by_cases hk6:k≤6
       ·obtain⟨hv1,hv2,hv3⟩:=HV.out hk6
        have hv4:=uB_6 hk6;have hv5:v≤17895696:=by omega
        obtain rfl:=hv1;have HK:Hid (16*u+d≤uB (k+1)):=Hi (by unfold uB;omega);clear hv3 hv4
        go_wp2_with fail
        refine(HD.out w2').mono ?_;rintro e w3⟨rfl,rfl⟩
        go_wp2_with fail
        refine⟨⟨f,k+1,16*u+d,c2,16*u+d,rfl,by go_num,by go_num,HU3.out,by omega,hcc.2.1,by omega,fun _=>⟨rfl,by omega,HK.out⟩,HB2.out⟩,by simp[intOf];omega⟩
       ·go_wp2_with fail
        refine(HD.out w2').mono ?_;rintro e w3⟨rfl,rfl⟩
        go_wp2_with fail
        refine⟨⟨f,k+1,16*v+d,c2,_,rfl,by go_num,rfl,HU3.out,by omega,hcc.2.1,by omega,fun h=>absurd h (by omega),HB2.out⟩,by simp[intOf];omega⟩
  ·have e1:((a1:Int)==123)=false:=by simp;omega
   have e2:¬(a1:Int)=123:=by omega
   have HR:Hid (Res=none):=Hi (by rw[HM.out,HN1.out];simp only;rw[if_neg h123]);clear h123
   go_wp2_with fail
   refine(QaV _ w1).mono ?_;rintro e w3⟨T,x,rfl,B3⟩;have HB3:=Hi B3;clear B3
   go_wp2_with fail
   refine bodyPost_ret (results_tmp3 (t:=4) (u:=5) (v:=6) (by kernel_rfl) _ _ _) rfl ?_;rw[HR.out];exact⟨HB1.out.trans (HB3.out.mono HB1.out.size),_,_,_,_,rfl⟩
abbrev enc(r:Int):List UInt8:=Lib.encodeRune r
def esc1(c:Nat):Option Nat:=if c=110 then some 10 else if c=114 then some 13 else if c=116 then some 9 else if c=92 then some 92 else if c=48 then some 0 else if c=39 then some 39 else if c=34 then some 34 else none
def uqL(star:Bool)(l:List UInt8):Nat→List UInt8→Nat→Option (List UInt8×Nat)
 | 0,_,_=>none
 | f+1,acc,i=>if i<l.length then(match nrX l i with
  | none=>none
  | some a=>if star=true∧a.1=42 then some (acc,a.2-1)else if a.1=92 then(match nrX l a.2 with
   | none=>none
   | some b=>match esc1 b.1 with
    | some c=>uqL star l f (acc++enc c) b.2
    | none=>if b.1=120 then(match hexE l b.2 with
      | none=>none
      | some r=>uqL star l f (acc++enc r.1) r.2)
     else if b.1=117 then(match uniE l b.2 with
      | none=>none
      | some r=>uqL star l f (acc++enc r.1) r.2)
     else if b.1=42∧star=true then uqL star l f (acc++enc 42) b.2 else none)
   else uqL star l f (acc++enc a.1) a.2)
  else some (acc,i)
def uqM(star:Bool)(l:List UInt8):Option (List UInt8×Nat):=uqL star l (l.length+1) [] 0
theorem Qfk(r:Int):(enc r).length=(Lib.encodeRuneZ r).length:=by simp[Lib.encodeRune]
theorem QhA(r:Int):(enc r).length≤4:=by rw[Qfk];exact(Lib.encodeRuneZ_length r).2
theorem Qbe{r:Int}(h0:0≤r)(h1:r≤127):(enc r).length≤1:=by rw[Qfk,Lib.encodeRuneZ_one h0 h1];exact Nat.le_refl _
theorem decN_enc(n b0 b1 b2 b3:Nat)(h:(Lib.decodeN n b0 b1 b2 b3).1≠65533):(enc ((Lib.decodeN n b0 b1 b2 b3).1:Int)).length≤(Lib.decodeN n b0 b1 b2 b3).2:=by
 rw[Qfk];unfold Lib.decodeN at h ⊢;split
 ·rw[Lib.encodeRuneZ_one (by omega) (by omega)];exact Nat.le_refl _
 ·split
  ·split
   ·rw[Lib.encodeRuneZ_two (by omega) (by omega)];exact Nat.le_refl _
   ·simp_all
  ·split
   ·split
    ·rw[Lib.encodeRuneZ_three (by omega)];exact Nat.le_refl _
    ·simp_all
   ·split
    ·split
     ·exact(Lib.encodeRuneZ_length _).2
     ·simp_all
    ·simp_all
theorem QhB{l:List UInt8}{i:Nat}{r:Nat×Nat}(h:nrX l i=some r):(enc (r.1:Int)).length≤r.2-i:=by
 unfold nrX at h;split at h
 ·unfold nrM at h
  split at h
  ·cases h
  ·rename_i hn
   cases h;simp only[Nat.add_sub_cancel_left];have hne:(l.drop i).length≠0:=by rw[List.length_drop];omega
   unfold dec at hn ⊢;rw[if_neg hne]at hn ⊢;exact decN_enc _ _ _ _ _ hn
 ·cases h
theorem Qek{l:List UInt8}{i:Nat}{r:Int×Nat}(h:hexE l i=some r):i<r.2∧r.2≤l.length∧0≤r.1∧r.1≤127:=by
 unfold hexE at h;split at h
 ·cases h
 ·rename_i a ha
  have h1:=QbF ha;split at h
  ·split at h
   ·cases h
   ·rename_i b hb
    have h2:=QbF hb;have d1:=Qd5 a.1;have d2:=Qd5 b.1;split at h
    ·split at h
     ·cases h
     ·cases h
      simp only;omega
    ·cases h
  ·cases h
theorem QhC{l:List UInt8}:∀(f k:Nat)(v:Int)(i:Nat)(p:Nat×Int×Nat),uniL l f k v i=some p→i+(p.1-k)<p.2.2∧p.2.2≤l.length∧k≤p.1
 | 0,_,_,_,_,h=>by cases h
 | f+1,k,v,i,p,h=>by
  rw[uniL]at h;split at h
  ·cases h
  ·rename_i a ha
   have h1:=QbF ha;split at h
   ·cases h;simp only;omega
   ·split at h
    ·have:=QhC f _ _ _ _ h;omega
    ·cases h
theorem Qel{l:List UInt8}{i:Nat}{r:Int×Nat}(h:uniE l i=some r):i+2<r.2∧r.2≤l.length∧Lib.validRune r.1=true:=by
 unfold uniE at h;split at h
 ·cases h
 ·rename_i a ha
  have h1:=QbF ha;split at h
  ·split at h
   ·cases h
   ·rename_i p hp
    have h2:=QhC _ _ _ _ _ hp;split at h
    ·cases h
    ·split at h
     ·cases h
      rename_i hv;exact⟨by simp only;omega,h2.2.1,hv⟩
     ·cases h
  ·cases h
theorem Qdc{r:Int}(h:Lib.validRune r=true):0≤r∧r≤1114111:=by
 unfold Lib.validRune at h;simp at h;omega
theorem QaS{w w':World}{T e:TypeId}{B b:Nat}{bs:List Value}(h:Lib.IsBuilderF T e B b bs w)(hb:Below w.heap.size w w'):Lib.IsBuilderF T e B b bs w':=by
 have key:∀p,Lib.BuilderAtF T e B b p bs w→Lib.BuilderAtF T e B b p bs w':=fun p k=>by
  obtain⟨h1,v,h2,h3,h4⟩:=k;refine⟨h1,v,(hb.block b (Qad h2)).trans h2,⟨h3.1,?_⟩,h4⟩;rcases h3.2 with h5 | ⟨g,cap,cur,fz,a1,a2,a3,a4⟩
  ·exact .inl h5
  ·exact .inr ⟨g,cap,cur,fz,a1,a2,(hb.block g (Qad a3)).trans a3,a4⟩
 exact h.elim (fun k=>.inl (key _ k)) (fun k=>.inr (key _ k))
theorem Qd6(w:World):Lib.IsBuilderF 360 5 w.heap.size w.heap.size [] (w.alloc (.cells #[.pointer none,.slice none 0 0] 360)):=by
 refine .inl ⟨Nat.le_refl _,.slice none 0 0,heap_alloc_new w _,⟨by simp,.inl ⟨rfl,by simp⟩⟩,by simp[Value.ownBlock]⟩
end Go.Proofs.Pg
