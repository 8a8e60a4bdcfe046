/- FnComma: a last comma changes nothing; for every world. Part 16. -/
import Derived.Test.YtmhjkkkhdlnngaaGreatDoorZ15
set_option linter.all false
set_option maxRecDepth 100000
set_option maxHeartbeats 40000000
namespace Go.Proofs.Pg
open Go.RowKit
attribute [local go_sem] Oper.semAt_some
def BoolRow(w:World)(B:Nat)(v:Value)(l:List Bool):Prop :=
 (l=[]∧v=.slice none 0 0)∨∃g cap c,v=.slice (some ⟨g,0,none⟩) l.length cap∧B≤g∧w.heap[g]? =some (.cells c 4 (0,0))∧l.length≤cap∧cap≤maxLen∧∀i,i<l.length→c[i]? =some (.bool (l.getD i false))
theorem QfZ{w:World}{B:Nat}{v:Value}{l:List Bool}(h:w.ownsRow B 4 1 v l.length (l.map .bool)):BoolRow w B v l:=by
 obtain⟨h1,h2⟩:=h;rcases h2 with⟨h,h0⟩ | ⟨g,cap,cur,a,b,c,d,e,f,k⟩
 ·exact .inl ⟨List.length_eq_zero_iff.1 h0,h⟩
 ·refine .inr ⟨g,cap,cur,a,b,c,d,e,fun i hi=>?_⟩
  have hk:(cur.toList.take (l.length*1))[i]? =(l.map Value.bool)[i]? := by rw[k]
  rw[List.getElem?_take_of_lt (by omega)]at hk;rw[List.getElem?_map]at hk;have:l[i]? =some (l.getD i false):=by simp[List.getD,List.getElem?_eq_getElem hi]
  rw[this]at hk;simpa using hk
theorem BoolRow.ext{w w':World}{B:Nat}{v:Value}{l:List Bool}{S:Nat→Prop}(h:BoolRow w B v l)(he:Ext S w w')(hs:∀d,S d→d<B):BoolRow w' B v l:=by
 rcases h with h | ⟨g,cap,c,a,b,d,e,f,k⟩
 ·exact .inl h
 ·exact .inr ⟨g,cap,c,a,b,he.heap (fun hS=>by have:=hs _ hS;omega) d,e,f,k⟩
theorem BoolRow.set{w:World}{B d o:Nat}{v:Value}{l:List Bool}{c:Array Value}{T:TypeId}{fr:Nat×Nat}(h:BoolRow w B v l)(hd:w.heap[d]? =some (.cells c T fr))(hT:T≠4)(u:Value):BoolRow (w.setCell ⟨d,o,none⟩ u) B v l:=by
 rcases h with h | ⟨g,cap,c',a,b,d',e,f,k⟩
 ·exact .inl h
 ·exact .inr ⟨g,cap,c',a,b,Qag d' (by rintro rfl;rw[hd]at d';cases d';exact hT rfl) u,e,f,k⟩
theorem QaD{w:World}{b:Nat}{v:Value}(h:w.cell? ⟨b,0,none⟩=some v):∀j u,[v][j]? =some u→w.cell? ⟨b,j,none⟩=some u:=by
 intro j u hj
 match j,hj with
 | 0,hj=>simp at hj;subst hj;exact h
 | j+1,hj=>simp at hj
theorem QbI{w:World}{B:Nat}{p:Option Addr}{n c:Nat}{l:List Bool}(h:BoolRow w B (.slice p n c) l){m:Nat}(hm:m<l.length):∃g,p=some ⟨g,0,none⟩∧w.cell? ⟨g,m,none⟩=some (.bool (l.getD m false)):=by
 rcases h with⟨rfl,_⟩ | ⟨g,cap,c',a,_,d',_,_,k⟩
 ·simp at hm
 ·cases a;exact⟨g,rfl,Qaa d' (k m hm)⟩
theorem Qdg{w:World}{lo:Nat}{v:Value}(l:List Bool)(x:Ex)(n:Int)(h:NodeIs w lo v x)(hn:n=(l.length:Int)-1:=by rfl):NodeIs w lo v (signed (l.drop (n+1).toNat) x):=by
 subst hn;simp[signed];exact h
theorem QeS(l:List Bool)(x:Ex){m:Nat}(hm:m<l.length):signed (l.drop m) x=if l.getD m false=true then .una 208 (signed (l.drop (m+1)) x)else .una 209 (signed (l.drop (m+1)) x):=by
 have e:l.drop m=l.getD m false::l.drop (m+1):=by rw[List.drop_eq_getElem_cons hm];simp[List.getD,List.getElem?_eq_getElem hm]
 rw[e];rfl
theorem Qc4{w:World}{lo m:Nat}{l:List Bool}{x:Ex}{T:TypeId}{v:Value}(hs:signed (l.drop m) x=if l.getD m false=true then .una 208 (signed (l.drop (m+1)) x)else .una 209 (signed (l.drop (m+1)) x))(hb:l.getD m false=true)(h:NodeIs w lo (.iface T v) (signed (l.drop ((m:Int)+1).toNat) x)):NodeIs w lo (.iface 208 (.agg #[.iface T v])) (signed (l.drop ((m:Int)-1+1).toNat) x):=by
 rw[show((m:Int)-1+1).toNat=m by omega,hs,if_pos hb];rw[show((m:Int)+1).toNat=m+1 by omega]at h;exact .una 208 _ _ h
theorem Qck{w:World}{lo m:Nat}{l:List Bool}{x:Ex}{T:TypeId}{v:Value}(hs:signed (l.drop m) x=if l.getD m false=true then .una 208 (signed (l.drop (m+1)) x)else .una 209 (signed (l.drop (m+1)) x))(hb:l.getD m false=false)(h:NodeIs w lo (.iface T v) (signed (l.drop ((m:Int)+1).toNat) x)):NodeIs w lo (.iface 209 (.agg #[.iface T v])) (signed (l.drop ((m:Int)-1+1).toNat) x):=by
 rw[show((m:Int)-1+1).toNat=m by omega,hs,hb,if_neg (by decide)];rw[show((m:Int)+1).toNat=m+1 by omega]at h;exact .una 209 _ _ h
theorem Qga{w:World}{B:Nat}{p:Option Addr}{n c:Nat}{l:List Bool}(h:BoolRow w B (.slice p n c) l)(hl:l≠[]):l.length≤c:=by
 rcases h with⟨h,_⟩ | ⟨g,cap,c',a,_,_,e,_,_⟩
 ·exact absurd h hl
 ·cases a;exact e
theorem QeT{w:World}{B:Nat}{p:Option Addr}{n c:Nat}{l:List Bool}{b:Bool}(h:BoolRow w B (.slice p n c) (l.concat b)):BoolRow w B (.slice p l.length c) l:=by
 rcases h with⟨h,_⟩ | ⟨g,cap,c',a,b1,d',e,f,k⟩
 ·simp at h
 ·cases a
  refine .inr ⟨g,_,c',rfl,b1,d',by simp at e;omega,f,fun i hi=>?_⟩;have:=k i (by simp;omega);rw[this];simp[List.getD,List.getElem?_append_left hi]
def SgRel(bp base R B V:Nat)(w:World)(ov:Value)(l:List Bool)(x:Ex)(ts:Toks)(s:Value)(wr:World):Prop :=
 ∃j T v,s=.int .i64 j∧-1≤j∧j<l.length∧NodeIs wr base (.iface T v) (signed (l.drop (j+1).toNat) x)∧wr.heap[V]? =some (.cells #[.iface T v] 299 (0,0))∧PS wr bp base ts∧BoolRow wr B ov l∧wr.heap[R]? =some (.cells #[.nilIface] 299 (0,0))∧Ext (·=bp) w wr
def OpsRel(bp base N R B:Nat)(w:World)(Rm:List Bool×Toks)(s:Value)(wr:World):Prop :=
 ∃g acc vs,opsL g acc vs=Rm∧vs.length<g∧Wf vs∧vs.length≤N∧acc.length+vs.length≤N∧PS wr bp base vs∧wr.ownsRow B 4 1 s acc.length (acc.map .bool)∧wr.heap[R]? =some (.cells #[.nilIface] 299 (0,0))∧Ext (·=bp) w wr
theorem unary_w{L:Lex}(hL:LexC L){E:Toks→Option (Ex×Toks)}{bp base N:Nat}(hE:Sh E)(hM:FnC 248 (member L E) bp base N):FnC 240 (unary L E) bp base N:=by
 intro w ts hp hwf hN hbs;have hbb:=hp.hbp;have h15:=hp.h15;have hlen:=hp.len;have HM:=Hi hM;have HE:=Hi hE;clear hM hE;go_enter Tryz.func240,Tryz.ntmps240
 go_upto_region 2 with(fail)
 obtain⟨w1,hw⟩:∃w1,(w.alloc (.cells #[.nilIface] 299))=w1:=⟨_,rfl⟩
 rw[hw];have hF:Below w.heap.size w w1:=by rw[←hw];exact Qab w _
 have hR1:w1.heap[w.heap.size]? =some (.cells #[.nilIface] 299 (0,0)):=by rw[←hw];exact Qah (by simp) _
 have hs1:w.heap.size+1≤w1.heap.size:=by rw[←hw];simp
 clear hw;have hX1:Ext (·=bp) w w1:=.below hF;have hp1:=hp.below hF;clear hp;clear hF;obtain⟨ops,hops⟩:∃q,opsL (ts.length+1) [] ts=q:=⟨_,rfl⟩
 have HOP:=Hi hops
 go_loopw [4] (fun s wr=>OpsRel bp base ts.length (w.heap.size) (w.heap.size+1) w ops s wr) (fun _ wr=>left wr bp)
 case atStart=>exact⟨ts.length+1,[],ts,hops,by omega,hwf,by omega,by simp,hp1,⟨rfl,.inl ⟨rfl,rfl⟩⟩,hR1,hX1⟩
 case round =>
  clear hR1 hp1 hX1 hops;obtain⟨wo,rfl⟩:∃wo:World,wo=wr:=⟨_,rfl⟩
  rename_i sops _;obtain⟨g,acc,vs,hg,hgl,hvw,hvN,haN,hp_wo,hO_wo,hR_wo,hX_wo⟩:=hrel;have HG:=Hi hg;clear hg;cases g with
  | zero=>omega
  | succ g =>
  obtain⟨u,q,rfl⟩:∃u q,vs=u::q:=by cases vs with | nil=>exact absurd rfl hp_wo.ne | cons u q=>exact⟨u,q,rfl⟩
  have HLF:=Hi hp_wo.left;have hsz_wo:=hX_wo.size;have ltR:=Qad hR_wo
  go_wp2_with fail
  refine(Qa7 hp_wo).mono ?_;rintro e w2⟨rfl,hF⟩;have hR2:=Bk hF hR_wo;have hO2:=Qaj (S:=fun _=>False) hO_wo (.below hF) (fun _ h=>h.elim);have hs2:=hF.size;have hX2:=hX_wo.trans (.below hF);have hp_w2:=hp_wo.below hF;clear hR_wo hO_wo hX_wo hp_wo;clear hF
  go_upto_region 3 with(fail)
  obtain⟨w3,hw⟩:∃w3,w2.alloc (.cells #[.int .i64 u.ty,.string u.fn,.int .i64 u.off,.int .i64 u.ln,.int .i64 u.col,.string u.tx] 122)=w3:=⟨_,rfl⟩
  rw[hw];have hF:Below w2.heap.size w2 w3:=by rw[←hw];exact Qab _ _
  have hK3:w3.heap[w2.heap.size]? =some (.cells #[.int .i64 u.ty,.string u.fn,.int .i64 u.off,.int .i64 u.ln,.int .i64 u.col,.string u.tx] 122 (0,0)):=by rw[←hw];exact heap_alloc_new _ _
  have hs3:w2.heap.size+1≤w3.heap.size:=by rw[←hw];simp
  clear hw;have hR3:=Bk hF hR2;have hO3:=Qaj (S:=fun _=>False) hO2 (.below hF) (fun _ h=>h.elim);have hX3:=hX2.trans (.below hF);have hp3:=hp_w2.below hF;clear hR2 hO2 hX2 hp_w2;clear hF;cases ht:(u.tx.toList==[45])with
  | true =>
   have hau:(adv (u::q)).length<(u::q).length:=Qax hvw (s:=[45]) ht (by decide);have c_hK_5:=Qaa (o:=5) hK3 rfl
   go_wp2_with fail
   refine(Qaz hp3).mono ?_;rintro e w4⟨rfl,hp4,hF⟩;have hR4:=hF.heap (by omega) hR3;have hK4:=hF.heap (by omega) hK3;have hO4:=Qaj hO3 hF (fun d hd=>by omega);have hs4:=hF.size;have hX4:=hX3.trans hF;clear hR3 hK3 hO3 hX3 hp3 c_hK_5;clear hF;have c_hK_5:=Qaa (o:=5) hK4 rfl;have hop:opsL (g+1) acc (u::q)=opsL g (acc++[true]) (adv (u::q)):=by rw[opsL];simp[tx,ht]
   have HR:=Hi (hop.symm.trans HG.out);clear hop;have hcn:(w4.alloc (.cells #[.bool true] 4)).cell? ⟨w4.heap.size,0,none⟩=some (.bool true):=Qaa (heap_alloc_new _ _) rfl
   go_wp2_with(at_builtin;refine appG sl254 rfl _ _ rfl (w.heap.size+1) _ _ _ rfl (hO4.alloc _) _ [.bool true] rfl rfl (QaD hcn) (fun v hv=>by rw[List.mem_singleton.1 hv];rfl) (by unfold maxLen;omega) (by omega) (by simp;omega) ?_)
   intro v9 w9 hO9 hg9 _;have hb9:=Qab w4 (.cells #[.bool true] 4);have hp9:=(hp4.below hb9).grow (hO4.alloc _) hg9 (by omega);have hR9:=QaL (Qaf hR4 _) (hO4.alloc _) hg9 (by omega);have hX9:=(hX4.alloc _).grow (hO4.alloc _) hg9 (by omega);clear hO4 hR4 hK4 hp4 hX4 hcn hb9 hg9 c_hK_5;go_wp2;go_roundw
   case rel=>exact⟨g,acc++[true],_,HR.out,by omega,hvw.adv,by omega,by simp;omega,hp9,by simpa using hO9,hR9,hX9⟩
   case measure =>
    rw[hp9.left,HLF.out];exact hau
  | false =>
   have hnm:=ht;clear ht;cases ht:(u.tx.toList==[33])with
   | true =>
    have hau:(adv (u::q)).length<(u::q).length:=Qax hvw (s:=[33]) ht (by decide);have c_hK_5:=Qaa (o:=5) hK3 rfl
    go_wp2_with fail
    refine(Qaz hp3).mono ?_;rintro e w4⟨rfl,hp4,hF⟩;have hR4:=hF.heap (by omega) hR3;have hK4:=hF.heap (by omega) hK3;have hO4:=Qaj hO3 hF (fun d hd=>by omega);have hs4:=hF.size;have hX4:=hX3.trans hF;clear hR3 hK3 hO3 hX3 hp3 c_hK_5;clear hF;have c_hK_5:=Qaa (o:=5) hK4 rfl;have hop:opsL (g+1) acc (u::q)=opsL g (acc++[false]) (adv (u::q)):=by rw[opsL];simp[tx,hnm,ht]
    have HR:=Hi (hop.symm.trans HG.out);clear hop;have hcn:(w4.alloc (.cells #[.bool false] 4)).cell? ⟨w4.heap.size,0,none⟩=some (.bool false):=Qaa (heap_alloc_new _ _) rfl
    go_wp2_with(at_builtin;refine appG sl254 rfl _ _ rfl (w.heap.size+1) _ _ _ rfl (hO4.alloc _) _ [.bool false] rfl rfl (QaD hcn) (fun v hv=>by rw[List.mem_singleton.1 hv];rfl) (by unfold maxLen;omega) (by omega) (by simp;omega) ?_)
    intro v9 w9 hO9 hg9 _;have hb9:=Qab w4 (.cells #[.bool false] 4);have hp9:=(hp4.below hb9).grow (hO4.alloc _) hg9 (by omega);have hR9:=QaL (Qaf hR4 _) (hO4.alloc _) hg9 (by omega);have hX9:=(hX4.alloc _).grow (hO4.alloc _) hg9 (by omega);clear hO4 hR4 hK4 hp4 hX4 hcn hb9 hg9 c_hK_5;go_wp2;go_roundw
    case rel=>exact⟨g,acc++[false],_,HR.out,by omega,hvw.adv,by omega,by simp;omega,hp9,by simpa using hO9,hR9,hX9⟩
    case measure =>
     rw[hp9.left,HLF.out];exact hau
   | false =>
    have hop:ops=(acc,u::q):=by rw[←HG.out,opsL];simp[tx,hnm,ht]
    have HR:=Hi hop;clear hop;have c_hK_5:=Qaa (o:=5) hK3 rfl
    go_upto_region 7 with(fail)
    obtain⟨w4,hw⟩:∃w4,w3.alloc (.cells #[.nilIface] 299)=w4:=⟨_,rfl⟩
    rw[hw];have hF:Below w3.heap.size w3 w4:=by rw[←hw];exact Qab _ _
    have hV4:w4.heap[w3.heap.size]? =some (.cells #[.nilIface] 299 (0,0)):=by rw[←hw];exact heap_alloc_new _ _
    have hs4:w3.heap.size+1≤w4.heap.size:=by rw[←hw];simp
    clear hw;have hR4:=Bk hF hR3;have hK4:=Bk hF hK3;have hO4:=Qaj (S:=fun _=>False) hO3 (.below hF) (fun _ h=>h.elim);have hX4:=hX3.trans (.below hF);have hp4:=hp3.below hF;clear hR3 hK3 hO3 hX3 hp3 c_hK_5;clear hF
    go_wp2_with fail
    refine(Qa7 hp4).mono ?_;rintro e w5⟨rfl,hF⟩;have hR5:=Bk hF hR4;have hK5:=Bk hF hK4;have hV5:=Bk hF hV4;have hO5:=Qaj (S:=fun _=>False) hO4 (.below hF) (fun _ h=>h.elim);have hs5:=hF.size;have hX5:=hX4.trans (.below hF);have hp5:=hp4.below hF;clear hR4 hK4 hV4 hO4 hX4 hp4;clear hF
    go_upto_region 8 with(fail)
    obtain⟨w6,hw⟩:∃w6,w5.alloc (.cells #[.int .i64 u.ty,.string u.fn,.int .i64 u.off,.int .i64 u.ln,.int .i64 u.col,.string u.tx] 122)=w6:=⟨_,rfl⟩
    rw[hw];have hF:Below w5.heap.size w5 w6:=by rw[←hw];exact Qab _ _
    have hK26:w6.heap[w5.heap.size]? =some (.cells #[.int .i64 u.ty,.string u.fn,.int .i64 u.off,.int .i64 u.ln,.int .i64 u.col,.string u.tx] 122 (0,0)):=by rw[←hw];exact heap_alloc_new _ _
    have hs6:w5.heap.size+1≤w6.heap.size:=by rw[←hw];simp
    clear hw;have hR6:=Bk hF hR5;have hK6:=Bk hF hK5;have hV6:=Bk hF hV5;have hO6:=Qaj (S:=fun _=>False) hO5 (.below hF) (fun _ h=>h.elim);have hX6:=hX5.trans (.below hF);have hp6:=hp5.below hF;clear hR5 hK5 hV5 hO5 hX5 hp5;clear hF;clear hK6;have hbr:=QfZ hO6;clear hO6;obtain⟨pv,cv,hv4,hbr⟩:∃p c,u4=.slice p acc.length c∧BoolRow w6 (w.heap.size+1) (.slice p acc.length c) acc:=by
     rcases hbr with⟨h1,h2⟩ | ⟨a1,a2,a3,a4,a5⟩
     ·exact⟨none,0,by rw[h2,h1];rfl,.inl ⟨h1,by rw[h1];rfl⟩⟩
     ·exact⟨_,_,a4,.inr ⟨a1,a2,a3,rfl,a5⟩⟩
    subst hv4;rcases List.eq_nil_or_concat acc with rfl | ⟨l,b,rfl⟩
    ·simp only[List.length_nil]at hbr
     have c_hK2_5:=Qaa (o:=5) hK26 rfl;have hBR:=hbr;clear hbr
     go_wp2_with fail
     refine(HM.out _ _ hp6 hvw (by omega) (by omega)).mono ?_;rintro e w7⟨hF,hr⟩;replace hBR:=hBR.ext hF (fun d hd=>by omega);have hR7:=hF.heap (by omega) hR6;have hV7:=hF.heap (by omega) hV6;have hK27:=hF.heap (by omega) hK26;have hs7:=hF.size;have hX7:=hX6.trans hF;clear hR6 hV6 hK26 hX6 c_hK2_5;clear hF;cases hm:member L E (u::q)with
     | none =>
      rw[hm]at hr;obtain⟨T2,v2,rfl⟩:=hr;have c_hV_0:=Qaa (o:=0) hV7 rfl;have f_hV:=Qae hV7 0;have lt_V:=Qad hV7;have HV:=Hi hV7;have c_hR_0:=Qaa (o:=0) hR7 rfl;have f_hR:=Qae hR7 0;have lt_hR:=Qad hR7;have HR2:=Hi (show unary L E ts=none by unfold Pg.unary;rw[HOP.out,HR.out];simp only[List.getLast?_nil,reduceCtorEq,false_and,if_false,hm]);have HB:=Hi hR7;clear hR7 hV7;go_wp2;refine Qai (R:=w.heap.size) _ 2 3 (by kernel_rfl) rfl rfl rfl (Qac (o:=0) (Qag HB.out (by omega) _) _) ?_
      exact Qak HR2.out ((hX7.set (p:=⟨w3.heap.size,0,none⟩) (.inr (show _≤w3.heap.size by omega)) _).set (p:=⟨w.heap.size,0,none⟩) (.inr (Nat.le_refl _)) _)
     | some p2 =>
      obtain⟨x,xs⟩:=p2;rw[hm]at hr;obtain⟨T2,v2,rfl,hp2,hv7⟩:=hr;have HR2:=Hi (show unary L E ts=some (signed ([]) x,xs)by unfold Pg.unary;rw[HOP.out,HR.out];simp only[List.getLast?_nil,reduceCtorEq,false_and,if_false,hm]);clear hm;have c_hV_0:=Qaa (o:=0) hV7 rfl;have f_hV:=Qae hV7 0;have lt_hV:=Qad hV7;replace hBR:=hBR.set (o:=0) hV7 (by decide) (.iface T2 v2)
      go_upto_region 19 with(fail)
      obtain⟨w8,hw⟩:∃w8,w7.setCell ⟨w3.heap.size,0,none⟩ (.iface T2 v2)=w8:=⟨_,rfl⟩
      rw[hw];have hv8:NodeIs w8 base _ _:=hw▸hv7.store (o:=0) hV7 (by decide) (.iface T2 v2);have hR8:w8.heap[w.heap.size]? =some (.cells #[.nilIface] 299 (0,0)):=hw▸Qag (o:=0) hR7 (by omega) (.iface T2 v2);have hV8:w8.heap[w3.heap.size]? =some (.cells #[.iface T2 v2] 299 (0,0)):=hw▸Qac (o:=0) hV7 (.iface T2 v2);have hK28:w8.heap[w5.heap.size]? =some (.cells #[.int .i64 u.ty,.string u.fn,.int .i64 u.off,.int .i64 u.ln,.int .i64 u.col,.string u.tx] 122 (0,0)):=hw▸Qag (o:=0) hK27 (by omega) (.iface T2 v2)
      have hX8:Ext (·=bp) w w8:=hw▸hX7.set (p:=⟨w3.heap.size,0,none⟩) (.inr (show w.heap.size≤w3.heap.size by omega)) (.iface T2 v2);have hs8:w7.heap.size≤w8.heap.size:=by rw[←hw];simp
      have hp8:PS w8 bp base _:=hw▸hp2.set (o:=0) (show base≤w3.heap.size by omega) (.iface T2 v2);rw[hw]at hBR;clear hv7 hR7 hV7 hK27 hX7 hp2 c_hV_0 f_hV lt_hV hw
      go_wp2_with fail
      go_loopw [11] (fun s wr=>SgRel bp base (w.heap.size) (w.heap.size+1) (w3.heap.size) w (.slice pv 0 cv) (([]:List Bool)) (x) (xs) s wr) (fun s _=>(intOf s+1).toNat)
      case atStart=>exact⟨_,_,_,rfl,by first | omega | (simp;omega),by first | omega | (simp;omega),Qdg _ _ _ hv8 (by first | rfl | (simp;omega) | simp),hV8,hp8,hBR,hR8,hX8⟩
      case round =>
       clear hv8 hV8 hp8 hR8 hX8 hBR hK28;obtain⟨wz,rfl⟩:∃wz:World,wz=wr:=⟨_,rfl⟩
       obtain⟨j,Tj,vj,rfl,hj0,hj1,hv_wz,hV_wz,hp_wz,hBR,hR_wz,hX_wz⟩:=hrel;have hsz_wz:=hX_wz.size;have ltV:=Qad hV_wz;have ltR2:=Qad hR_wz;by_cases hj:0≤j
       rotate_left
       ·obtain rfl:j=-1:=by omega
        have c_hV_0:=Qaa (o:=0) hV_wz rfl;have lt_hV:=Qad hV_wz;have c_hR_0:=Qaa (o:=0) hR_wz rfl;have f_hR:=Qae hR_wz 0;have lt_hR:=Qad hR_wz;have HR:=Hi (show unary L E ts=some (signed (([]:List Bool)) (x),xs)from HR2.out);have HB:=Hi hR_wz;clear hR_wz;go_wp2;refine Qai (R:=w.heap.size) _ 2 3 (by kernel_rfl) rfl rfl rfl (Qac (o:=0) HB.out _) ?_;exact(Qal HR.out (hX_wz.set (p:=⟨w.heap.size,0,none⟩) (.inr (show _≤w.heap.size by omega)) _) (hp_wz.set (o:=0) (by omega) _) (NodeIs.store (o:=0) ((by simpa using hv_wz)) HB.out (by decide) _))
       ·obtain⟨m,rfl⟩:=Int.eq_ofNat_of_zero_le hj
        exact absurd (show m<0 by simp at hj1;omega) (Nat.not_lt_zero _)
    ·have hb0:=QbI hbr (m:=l.length) (by simp)
     obtain⟨g9,rfl,hc9⟩:=hb0;have hc9':w6.cell? ⟨g9,l.length,none⟩=some (.bool b):=by rw[hc9];simp
     clear hc9;rw[show(l.concat b).length=l.length+1 by simp];have hln:l.length+1≤1000000:=by
      have hq:(l.concat b).length=l.length+1:=(by simp);omega
     cases b with
     | false =>
      have c_hK2_5:=Qaa (o:=5) hK26 rfl;have hBR:=hbr;clear hbr
      go_wp2_with fail
      refine(HM.out _ _ hp6 hvw (by omega) (by omega)).mono ?_;rintro e w7⟨hF,hr⟩;replace hBR:=hBR.ext hF (fun d hd=>by omega);have hR7:=hF.heap (by omega) hR6;have hV7:=hF.heap (by omega) hV6;have hK27:=hF.heap (by omega) hK26;have hs7:=hF.size;have hX7:=hX6.trans hF;clear hR6 hV6 hK26 hX6 c_hK2_5 hc9';clear hF;cases hm:member L E (u::q)with
      | none =>
       rw[hm]at hr;obtain⟨T2,v2,rfl⟩:=hr;have c_hV_0:=Qaa (o:=0) hV7 rfl;have f_hV:=Qae hV7 0;have lt_V:=Qad hV7;have HV:=Hi hV7;have c_hR_0:=Qaa (o:=0) hR7 rfl;have f_hR:=Qae hR7 0;have lt_hR:=Qad hR7;have HR2:=Hi (show unary L E ts=none by unfold Pg.unary;rw[HOP.out,HR.out];simp only[List.concat_eq_append,List.getLast?_append,List.getLast?_singleton,Option.some_or,Option.some.injEq,Bool.false_eq_true,false_and,if_false,hm])
       have HB:=Hi hR7;clear hR7 hV7;go_wp2;refine Qai (R:=w.heap.size) _ 2 3 (by kernel_rfl) rfl rfl rfl (Qac (o:=0) (Qag HB.out (by omega) _) _) ?_;exact Qak HR2.out ((hX7.set (p:=⟨w3.heap.size,0,none⟩) (.inr (show _≤w3.heap.size by omega)) _).set (p:=⟨w.heap.size,0,none⟩) (.inr (Nat.le_refl _)) _)
      | some p2 =>
       obtain⟨x,xs⟩:=p2;rw[hm]at hr;obtain⟨T2,v2,rfl,hp2,hv7⟩:=hr;have HR2:=Hi (show unary L E ts=some (signed (l.concat false) x,xs)by unfold Pg.unary;rw[HOP.out,HR.out];simp only[List.concat_eq_append,List.getLast?_append,List.getLast?_singleton,Option.some_or,Option.some.injEq,Bool.false_eq_true,false_and,if_false,hm]);clear hm;have c_hV_0:=Qaa (o:=0) hV7 rfl;have f_hV:=Qae hV7 0;have lt_hV:=Qad hV7
       replace hBR:=hBR.set (o:=0) hV7 (by decide) (.iface T2 v2)
       go_upto_region 19 with(fail)
       obtain⟨w8,hw⟩:∃w8,w7.setCell ⟨w3.heap.size,0,none⟩ (.iface T2 v2)=w8:=⟨_,rfl⟩
       rw[hw];have hv8:NodeIs w8 base _ _:=hw▸hv7.store (o:=0) hV7 (by decide) (.iface T2 v2);have hR8:w8.heap[w.heap.size]? =some (.cells #[.nilIface] 299 (0,0)):=hw▸Qag (o:=0) hR7 (by omega) (.iface T2 v2);have hV8:w8.heap[w3.heap.size]? =some (.cells #[.iface T2 v2] 299 (0,0)):=hw▸Qac (o:=0) hV7 (.iface T2 v2);have hK28:w8.heap[w5.heap.size]? =some (.cells #[.int .i64 u.ty,.string u.fn,.int .i64 u.off,.int .i64 u.ln,.int .i64 u.col,.string u.tx] 122 (0,0)):=hw▸Qag (o:=0) hK27 (by omega) (.iface T2 v2)
       have hX8:Ext (·=bp) w w8:=hw▸hX7.set (p:=⟨w3.heap.size,0,none⟩) (.inr (show w.heap.size≤w3.heap.size by omega)) (.iface T2 v2);have hs8:w7.heap.size≤w8.heap.size:=by rw[←hw];simp
       have hp8:PS w8 bp base _:=hw▸hp2.set (o:=0) (show base≤w3.heap.size by omega) (.iface T2 v2);rw[hw]at hBR;clear hv7 hR7 hV7 hK27 hX7 hp2 c_hV_0 f_hV lt_hV hw
       go_wp2_with fail
       have hln2:(l.concat false).length=l.length+1:=by simp
       have HLN:=Hi hln2;clear hln2
       go_loopw [11] (fun s wr=>SgRel bp base (w.heap.size) (w.heap.size+1) (w3.heap.size) w (.slice (some ⟨g9,0,none⟩) (l.concat false).length cv) (l.concat false) (x) (xs) s wr) (fun s _=>(intOf s+1).toNat)
       case atStart=>exact⟨_,_,_,rfl,by first | omega | (simp;omega),by first | omega | (simp;omega),Qdg _ _ _ hv8 (by first | rfl | (simp;omega) | simp),hV8,hp8,hBR,hR8,hX8⟩
       case round =>
        clear hv8 hV8 hp8 hR8 hX8 hBR hK28;obtain⟨wz,rfl⟩:∃wz:World,wz=wr:=⟨_,rfl⟩
        obtain⟨j,Tj,vj,rfl,hj0,hj1,hv_wz,hV_wz,hp_wz,hBR,hR_wz,hX_wz⟩:=hrel;have hsz_wz:=hX_wz.size;have ltV:=Qad hV_wz;have ltR2:=Qad hR_wz;by_cases hj:0≤j
        rotate_left
        ·obtain rfl:j=-1:=by omega
         have c_hV_0:=Qaa (o:=0) hV_wz rfl;have lt_hV:=Qad hV_wz;have c_hR_0:=Qaa (o:=0) hR_wz rfl;have f_hR:=Qae hR_wz 0;have lt_hR:=Qad hR_wz;have HR:=Hi (show unary L E ts=some (signed (l.concat false) (x),xs)from HR2.out);have HB:=Hi hR_wz;clear hR_wz;go_wp2;refine Qai (R:=w.heap.size) _ 2 3 (by kernel_rfl) rfl rfl rfl (Qac (o:=0) HB.out _) ?_;exact(Qal HR.out (hX_wz.set (p:=⟨w.heap.size,0,none⟩) (.inr (show _≤w.heap.size by omega)) _) (hp_wz.set (o:=0) (by omega) _) (NodeIs.store (o:=0) ((by simpa using hv_wz)) HB.out (by decide) _))
        ·obtain⟨m,rfl⟩:=Int.eq_ofNat_of_zero_le hj
         have hm:m<(l.concat false).length:=by omega
         obtain⟨gq,hgq,hcq⟩:=QbI hBR hm;have HLm:=Hi (QeS (l.concat false) (x) hm);have hmb:m<l.length+1:=by
          have:=HLN.out;omega
         cases hgb:(l.concat false).getD m false with
         | true =>
          rw[hgb]at hcq;have c_hV_0:=Qaa (o:=0) hV_wz rfl;obtain rfl:gq=g9:=by cases hgq;rfl
          go_wp2_with fail
          refine(Qgw _ _ _).mono ?_;rintro e w9⟨rfl,hF⟩;have hv9:=hv_wz.later hF;have hR_w9:=Bk hF hR_wz;have hV9:=Bk hF hV_wz;have hs9:=hF.size;have hX_w9:=hX_wz.trans (.below hF);have hp_w9:=hp_wz.below hF;clear hv_wz hR_wz hV_wz hX_wz hp_wz c_hV_0;have hBR2:=hBR.ext (S:=fun _=>False) (.below hF) (fun _ h=>h.elim);clear hF hBR hcq;have c_hV_0:=Qaa (o:=0) hV9 rfl;have f_hV:=Qae hV9 0;have lt_hV:=Qad hV9
          have lt_hR:=Qad hR_w9;have H_V:=Hi hV9;have H_R:=Hi hR_w9;clear hV9 hR_w9;go_wp2;go_roundw
          case rel=>exact⟨_,208,_,rfl,by omega,by omega,Qc4 HLm.out hgb (hv9.store (o:=0) H_V.out (by decide) _),Qac (o:=0) H_V.out _,hp_w9.set (o:=0) (by omega) _,hBR2.set (o:=0) H_V.out (by decide) _,Qag (o:=0) H_R.out (by omega) _,hX_w9.set (p:=⟨w3.heap.size,0,none⟩) (.inr (show _≤w3.heap.size by omega)) _⟩
          case measure=>first | (simp[intOf];done) | (simp[intOf];omega)
         | false =>
          rw[hgb]at hcq;have c_hV_0:=Qaa (o:=0) hV_wz rfl;obtain rfl:gq=g9:=by cases hgq;rfl
          go_wp2_with fail
          refine(Qgx _ _ _).mono ?_;rintro e w9⟨rfl,hF⟩;have hv9:=hv_wz.later hF;have hR_w9:=Bk hF hR_wz;have hV9:=Bk hF hV_wz;have hs9:=hF.size;have hX_w9:=hX_wz.trans (.below hF);have hp_w9:=hp_wz.below hF;clear hv_wz hR_wz hV_wz hX_wz hp_wz c_hV_0;have hBR2:=hBR.ext (S:=fun _=>False) (.below hF) (fun _ h=>h.elim);clear hF hBR hcq;have c_hV_0:=Qaa (o:=0) hV9 rfl;have f_hV:=Qae hV9 0;have lt_hV:=Qad hV9
          have lt_hR:=Qad hR_w9;have H_V:=Hi hV9;have H_R:=Hi hR_w9;clear hV9 hR_w9;go_wp2;go_roundw
          case rel=>exact⟨_,209,_,rfl,by omega,by omega,Qck HLm.out hgb (hv9.store (o:=0) H_V.out (by decide) _),Qac (o:=0) H_V.out _,hp_w9.set (o:=0) (by omega) _,hBR2.set (o:=0) H_V.out (by decide) _,Qag (o:=0) H_R.out (by omega) _,hX_w9.set (p:=⟨w3.heap.size,0,none⟩) (.inr (show _≤w3.heap.size by omega)) _⟩
          case measure=>first | (simp[intOf];done) | (simp[intOf];omega)
     | true =>
      obtain⟨c_hK2_0,c_hK2_1,c_hK2_2,c_hK2_3,c_hK2_4,c_hK2_5⟩:=Cl6 hK26 rfl rfl rfl rfl rfl rfl
      go_wp2_with fail
      refine(Qg2 u _).mono ?_;rintro e w7⟨rfl,hF⟩;replace hbr:=hbr.ext (S:=fun _=>False) (.below hF) (fun _ h=>h.elim);have hR7:=Bk hF hR6;have hV7:=Bk hF hV6;have hK27:=Bk hF hK26;have hs7:=hF.size;have hX7:=hX6.trans (.below hF);have hp7:=hp6.below hF;clear hR6 hV6 hK26 hX6 hp6 c_hK2_0 c_hK2_1 c_hK2_2 c_hK2_3 c_hK2_4 c_hK2_5 hc9';clear hF;cases hi:(u.ty==2)with
      | false =>
       have hBR:=hbr;clear hbr
       go_wp2_with fail
       refine(HM.out _ _ hp7 hvw (by omega) (by omega)).mono ?_;rintro e w8⟨hF,hr⟩;replace hBR:=hBR.ext hF (fun d hd=>by omega);have hR8:=hF.heap (by omega) hR7;have hV8:=hF.heap (by omega) hV7;have hK28:=hF.heap (by omega) hK27;have hs8:=hF.size;have hX8:=hX7.trans hF;clear hR7 hV7 hK27 hX7;clear hF;cases hm:member L E (u::q)with
       | none =>
        rw[hm]at hr;obtain⟨T2,v2,rfl⟩:=hr;have c_hV_0:=Qaa (o:=0) hV8 rfl;have f_hV:=Qae hV8 0;have lt_V:=Qad hV8;have HV:=Hi hV8;have c_hR_0:=Qaa (o:=0) hR8 rfl;have f_hR:=Qae hR8 0;have lt_hR:=Qad hR8;have HR2:=Hi (show unary L E ts=none by unfold Pg.unary;rw[HOP.out,HR.out];simp only[ty,hd,hi,Bool.false_eq_true,and_false,if_false,hm]);have HB:=Hi hR8;clear hR8 hV8;go_wp2;refine Qai (R:=w.heap.size) _ 2 3 (by kernel_rfl) rfl rfl rfl (Qac (o:=0) (Qag HB.out (by omega) _) _) ?_
        exact Qak HR2.out ((hX8.set (p:=⟨w3.heap.size,0,none⟩) (.inr (show _≤w3.heap.size by omega)) _).set (p:=⟨w.heap.size,0,none⟩) (.inr (Nat.le_refl _)) _)
       | some p2 =>
        obtain⟨x,xs⟩:=p2;rw[hm]at hr;obtain⟨T2,v2,rfl,hp2,hv8⟩:=hr;have HR2:=Hi (show unary L E ts=some (signed (l.concat true) x,xs)by unfold Pg.unary;rw[HOP.out,HR.out];simp only[ty,hd,hi,Bool.false_eq_true,and_false,if_false,hm]);clear hm;have c_hV_0:=Qaa (o:=0) hV8 rfl;have f_hV:=Qae hV8 0;have lt_hV:=Qad hV8;replace hBR:=hBR.set (o:=0) hV8 (by decide) (.iface T2 v2)
        go_upto_region 19 with(fail)
        obtain⟨w9,hw⟩:∃w9,w8.setCell ⟨w3.heap.size,0,none⟩ (.iface T2 v2)=w9:=⟨_,rfl⟩
        rw[hw];have hv9:NodeIs w9 base _ _:=hw▸hv8.store (o:=0) hV8 (by decide) (.iface T2 v2);have hR_w9:w9.heap[w.heap.size]? =some (.cells #[.nilIface] 299 (0,0)):=hw▸Qag (o:=0) hR8 (by omega) (.iface T2 v2);have hV9:w9.heap[w3.heap.size]? =some (.cells #[.iface T2 v2] 299 (0,0)):=hw▸Qac (o:=0) hV8 (.iface T2 v2);have hK29:w9.heap[w5.heap.size]? =some (.cells #[.int .i64 u.ty,.string u.fn,.int .i64 u.off,.int .i64 u.ln,.int .i64 u.col,.string u.tx] 122 (0,0)):=hw▸Qag (o:=0) hK28 (by omega) (.iface T2 v2)
        have hX_w9:Ext (·=bp) w w9:=hw▸hX8.set (p:=⟨w3.heap.size,0,none⟩) (.inr (show w.heap.size≤w3.heap.size by omega)) (.iface T2 v2);have hs9:w8.heap.size≤w9.heap.size:=by rw[←hw];simp
        have hp_w9:PS w9 bp base _:=hw▸hp2.set (o:=0) (show base≤w3.heap.size by omega) (.iface T2 v2);rw[hw]at hBR;clear hv8 hR8 hV8 hK28 hX8 hp2 c_hV_0 f_hV lt_hV hw
        go_wp2_with fail
        have hln2:(l.concat true).length=l.length+1:=by simp
        have HLN:=Hi hln2;clear hln2
        go_loopw [11] (fun s wr=>SgRel bp base (w.heap.size) (w.heap.size+1) (w3.heap.size) w (.slice (some ⟨g9,0,none⟩) (l.concat true).length cv) (l.concat true) (x) (xs) s wr) (fun s _=>(intOf s+1).toNat)
        case atStart=>exact⟨_,_,_,rfl,by first | omega | (simp;omega),by first | omega | (simp;omega),Qdg _ _ _ hv9 (by first | rfl | (simp;omega) | simp),hV9,hp_w9,hBR,hR_w9,hX_w9⟩
        case round =>
         clear hv9 hV9 hp_w9 hR_w9 hX_w9 hBR hK29;obtain⟨wz,rfl⟩:∃wz:World,wz=wr:=⟨_,rfl⟩
         obtain⟨j,Tj,vj,rfl,hj0,hj1,hv_wz,hV_wz,hp_wz,hBR,hR_wz,hX_wz⟩:=hrel;have hsz_wz:=hX_wz.size;have ltV:=Qad hV_wz;have ltR2:=Qad hR_wz;by_cases hj:0≤j
         rotate_left
         ·obtain rfl:j=-1:=by omega
          have c_hV_0:=Qaa (o:=0) hV_wz rfl;have lt_hV:=Qad hV_wz;have c_hR_0:=Qaa (o:=0) hR_wz rfl;have f_hR:=Qae hR_wz 0;have lt_hR:=Qad hR_wz;have HR:=Hi (show unary L E ts=some (signed (l.concat true) (x),xs)from HR2.out);have HB:=Hi hR_wz;clear hR_wz;go_wp2;refine Qai (R:=w.heap.size) _ 2 3 (by kernel_rfl) rfl rfl rfl (Qac (o:=0) HB.out _) ?_;exact(Qal HR.out (hX_wz.set (p:=⟨w.heap.size,0,none⟩) (.inr (show _≤w.heap.size by omega)) _) (hp_wz.set (o:=0) (by omega) _) (NodeIs.store (o:=0) ((by simpa using hv_wz)) HB.out (by decide) _))
         ·obtain⟨m,rfl⟩:=Int.eq_ofNat_of_zero_le hj
          have hm:m<(l.concat true).length:=by omega
          obtain⟨gq,hgq,hcq⟩:=QbI hBR hm;have HLm:=Hi (QeS (l.concat true) (x) hm);have hmb:m<l.length+1:=by
           have:=HLN.out;omega
          cases hgb:(l.concat true).getD m false with
          | true =>
           rw[hgb]at hcq;have c_hV_0:=Qaa (o:=0) hV_wz rfl;obtain rfl:gq=g9:=by cases hgq;rfl
           go_wp2_with fail
           refine(Qgw _ _ _).mono ?_;rintro e w10⟨rfl,hF⟩;have hv10:=hv_wz.later hF;have hR10:=Bk hF hR_wz;have hV10:=Bk hF hV_wz;have hs10:=hF.size;have hX10:=hX_wz.trans (.below hF);have hp10:=hp_wz.below hF;clear hv_wz hR_wz hV_wz hX_wz hp_wz c_hV_0;have hBR2:=hBR.ext (S:=fun _=>False) (.below hF) (fun _ h=>h.elim);clear hF hBR hcq;have c_hV_0:=Qaa (o:=0) hV10 rfl;have f_hV:=Qae hV10 0;have lt_hV:=Qad hV10
           have lt_hR:=Qad hR10;have H_V:=Hi hV10;have H_R:=Hi hR10;clear hV10 hR10;go_wp2;go_roundw
           case rel=>exact⟨_,208,_,rfl,by omega,by omega,Qc4 HLm.out hgb (hv10.store (o:=0) H_V.out (by decide) _),Qac (o:=0) H_V.out _,hp10.set (o:=0) (by omega) _,hBR2.set (o:=0) H_V.out (by decide) _,Qag (o:=0) H_R.out (by omega) _,hX10.set (p:=⟨w3.heap.size,0,none⟩) (.inr (show _≤w3.heap.size by omega)) _⟩
           case measure=>first | (simp[intOf];done) | (simp[intOf];omega)
          | false =>
           rw[hgb]at hcq;have c_hV_0:=Qaa (o:=0) hV_wz rfl;obtain rfl:gq=g9:=by cases hgq;rfl
           go_wp2_with fail
           refine(Qgx _ _ _).mono ?_;rintro e w10⟨rfl,hF⟩;have hv10:=hv_wz.later hF;have hR10:=Bk hF hR_wz;have hV10:=Bk hF hV_wz;have hs10:=hF.size;have hX10:=hX_wz.trans (.below hF);have hp10:=hp_wz.below hF;clear hv_wz hR_wz hV_wz hX_wz hp_wz c_hV_0;have hBR2:=hBR.ext (S:=fun _=>False) (.below hF) (fun _ h=>h.elim);clear hF hBR hcq;have c_hV_0:=Qaa (o:=0) hV10 rfl;have f_hV:=Qae hV10 0;have lt_hV:=Qad hV10
           have lt_hR:=Qad hR10;have H_V:=Hi hV10;have H_R:=Hi hR10;clear hV10 hR10;go_wp2;go_roundw
           case rel=>exact⟨_,209,_,rfl,by omega,by omega,Qck HLm.out hgb (hv10.store (o:=0) H_V.out (by decide) _),Qac (o:=0) H_V.out _,hp10.set (o:=0) (by omega) _,hBR2.set (o:=0) H_V.out (by decide) _,Qag (o:=0) H_R.out (by omega) _,hX10.set (p:=⟨w3.heap.size,0,none⟩) (.inr (show _≤w3.heap.size by omega)) _⟩
           case measure=>first | (simp[intOf];done) | (simp[intOf];omega)
      | true =>
       have htz:=hp7.sz
       go_wp2_with fail
       refine(Qaz hp7).mono ?_;rintro e w8⟨rfl,hp8,hF⟩;replace hbr:=hbr.ext hF (fun d hd=>by omega);have hcv:l.length≤cv:=by have:=Qga hbr (by simp);simp at this;omega
       have hR8:=hF.heap (by omega) hR7;have hV8:=hF.heap (by omega) hV7;have hK28:=hF.heap (by omega) hK27;have hs8:=hF.size;have hX8:=hX7.trans hF;clear hR7 hV7 hK27 hX7 hp7;clear hF;have c_hK2_5:=Qaa (o:=5) hK28 rfl;have hsz1:((⟨#[45]⟩:ByteArray)++u.tx).size≤1000001:=by rw[ByteArray.size_append];show 1+_≤_;omega
       go_wp2_with fail
       refine(hL.int ((⟨#[45]⟩:ByteArray)++u.tx) _ hp8.g (by omega) hsz1).mono ?_;rintro e w9⟨hF,hr⟩;replace hbr:=hbr.ext (S:=fun _=>False) (.below hF) (fun _ h=>h.elim);have hR_w9:=Bk hF hR8;have hV9:=Bk hF hV8;have hK29:=Bk hF hK28;have hs9:=hF.size;have hX_w9:=hX8.trans (.below hF);have hp_w9:=hp8.below hF;clear hR8 hV8 hK28 hX8 hp8 c_hK2_5;clear hF;have hgl:(l.concat true).getLast? =some true:=by simp
       cases hm:L.int ((⟨#[45]⟩:ByteArray)++u.tx)with
       | none =>
        rw[hm]at hr;obtain⟨n2,T2,v2,rfl⟩:=hr;have c_hR_0:=Qaa (o:=0) hR_w9 rfl;have f_hR:=Qae hR_w9 0;have lt_hR:=Qad hR_w9;have HR:=Hi (show unary L E ts=none by unfold Pg.unary;rw[HOP.out,HR.out];simp only[hgl,ty,hd,hi,hm,and_self,if_true]);have HB:=Hi hR_w9;clear hR_w9;go_wp2;refine Qai (R:=w.heap.size) _ 2 3 (by kernel_rfl) rfl rfl rfl (Qac (o:=0) HB.out _) ?_;exact(Qak HR.out (hX_w9.set (p:=⟨w.heap.size,0,none⟩) (.inr (show _≤w.heap.size by omega)) _))
       | some n =>
        rw[hm]at hr;obtain rfl:=hr;have HR2:=Hi (show unary L E ts=some (signed l (.val (.long n)),adv (u::q))by unfold Pg.unary;rw[HOP.out,HR.out];simp only[hgl,ty,hd,hi,hm,and_self,if_true];simp);clear hm hgl
        go_wp2_with fail
        refine(n247_c _ _).mono ?_;rintro e w10⟨rfl,hF⟩;replace hbr:=hbr.ext (S:=fun _=>False) (.below hF) (fun _ h=>h.elim);have hR10:=Bk hF hR_w9;have hV10:=Bk hF hV9;have hK210:=Bk hF hK29;have hs10:=hF.size;have hX10:=hX_w9.trans (.below hF);have hp10:=hp_w9.below hF;clear hR_w9 hV9 hK29 hX_w9 hp_w9;clear hF;have hBR:=QeT hbr;clear hbr;have hv10:NodeIs w10 base (.iface 182 (.agg #[.iface 253 (.int .i64 n)])) (.val (.long n)):=.val (.long n)
        have c_hV_0:=Qaa (o:=0) hV10 rfl;have f_hV:=Qae hV10 0;have lt_hV:=Qad hV10;replace hBR:=hBR.set (o:=0) hV10 (by decide) (.iface 182 (.agg #[.iface 253 (.int .i64 n)]))
        go_upto_region 14 with(fail)
        obtain⟨w11,hw⟩:∃w11,w10.setCell ⟨w3.heap.size,0,none⟩ (.iface 182 (.agg #[.iface 253 (.int .i64 n)]))=w11:=⟨_,rfl⟩
        rw[hw];have hv11:NodeIs w11 base _ _:=hw▸hv10.store (o:=0) hV10 (by decide) (.iface 182 (.agg #[.iface 253 (.int .i64 n)]));have hR11:w11.heap[w.heap.size]? =some (.cells #[.nilIface] 299 (0,0)):=hw▸Qag (o:=0) hR10 (by omega) (.iface 182 (.agg #[.iface 253 (.int .i64 n)]));have hV11:w11.heap[w3.heap.size]? =some (.cells #[.iface 182 (.agg #[.iface 253 (.int .i64 n)])] 299 (0,0)):=hw▸Qac (o:=0) hV10 (.iface 182 (.agg #[.iface 253 (.int .i64 n)]))
        have hK211:w11.heap[w5.heap.size]? =some (.cells #[.int .i64 u.ty,.string u.fn,.int .i64 u.off,.int .i64 u.ln,.int .i64 u.col,.string u.tx] 122 (0,0)):=hw▸Qag (o:=0) hK210 (by omega) (.iface 182 (.agg #[.iface 253 (.int .i64 n)]));have hX11:Ext (·=bp) w w11:=hw▸hX10.set (p:=⟨w3.heap.size,0,none⟩) (.inr (show w.heap.size≤w3.heap.size by omega)) (.iface 182 (.agg #[.iface 253 (.int .i64 n)]))
        have hs11:w10.heap.size≤w11.heap.size:=by rw[←hw];simp
        have hp11:PS w11 bp base _:=hw▸hp10.set (o:=0) (show base≤w3.heap.size by omega) (.iface 182 (.agg #[.iface 253 (.int .i64 n)]));rw[hw]at hBR;clear hv10 hR10 hV10 hK210 hX10 hp10 c_hV_0 f_hV lt_hV hw
        go_wp2_with fail
        go_loopw [11] (fun s wr=>SgRel bp base (w.heap.size) (w.heap.size+1) (w3.heap.size) w (.slice (some ⟨g9,0,none⟩) l.length cv) (l) ((.val (.long n))) (adv (u::q)) s wr) (fun s _=>(intOf s+1).toNat)
        case atStart=>exact⟨_,_,_,rfl,by first | omega | (simp;omega),by first | omega | (simp;omega),Qdg _ _ _ hv11 (by first | rfl | (simp;omega) | simp),hV11,hp11,hBR,hR11,hX11⟩
        case round =>
         clear hv11 hV11 hp11 hR11 hX11 hBR hK211;obtain⟨wz,rfl⟩:∃wz:World,wz=wr:=⟨_,rfl⟩
         obtain⟨j,Tj,vj,rfl,hj0,hj1,hv_wz,hV_wz,hp_wz,hBR,hR_wz,hX_wz⟩:=hrel;have hsz_wz:=hX_wz.size;have ltV:=Qad hV_wz;have ltR2:=Qad hR_wz;by_cases hj:0≤j
         rotate_left
         ·obtain rfl:j=-1:=by omega
          have c_hV_0:=Qaa (o:=0) hV_wz rfl;have lt_hV:=Qad hV_wz;have c_hR_0:=Qaa (o:=0) hR_wz rfl;have f_hR:=Qae hR_wz 0;have lt_hR:=Qad hR_wz;have HR:=Hi (show unary L E ts=some (signed (l) ((.val (.long n))),adv (u::q))from HR2.out);have HB:=Hi hR_wz;clear hR_wz;go_wp2;refine Qai (R:=w.heap.size) _ 2 3 (by kernel_rfl) rfl rfl rfl (Qac (o:=0) HB.out _) ?_;exact(Qal HR.out (hX_wz.set (p:=⟨w.heap.size,0,none⟩) (.inr (show _≤w.heap.size by omega)) _) (hp_wz.set (o:=0) (by omega) _) (NodeIs.store (o:=0) ((by simpa using hv_wz)) HB.out (by decide) _))
         ·obtain⟨m,rfl⟩:=Int.eq_ofNat_of_zero_le hj
          have hm:m<(l).length:=by omega
          obtain⟨gq,hgq,hcq⟩:=QbI hBR hm;have HLm:=Hi (QeS (l) ((.val (.long n))) hm);cases hgb:(l).getD m false with
          | true =>
           rw[hgb]at hcq;have c_hV_0:=Qaa (o:=0) hV_wz rfl;obtain rfl:gq=g9:=by cases hgq;rfl
           go_wp2_with fail
           refine(Qgw _ _ _).mono ?_;rintro e w12⟨rfl,hF⟩;have hv12:=hv_wz.later hF;have hR12:=Bk hF hR_wz;have hV12:=Bk hF hV_wz;have hs12:=hF.size;have hX12:=hX_wz.trans (.below hF);have hp12:=hp_wz.below hF;clear hv_wz hR_wz hV_wz hX_wz hp_wz c_hV_0;have hBR2:=hBR.ext (S:=fun _=>False) (.below hF) (fun _ h=>h.elim);clear hF hBR hcq;have c_hV_0:=Qaa (o:=0) hV12 rfl;have f_hV:=Qae hV12 0;have lt_hV:=Qad hV12
           have lt_hR:=Qad hR12;have H_V:=Hi hV12;have H_R:=Hi hR12;clear hV12 hR12;go_wp2;go_roundw
           case rel=>exact⟨_,208,_,rfl,by omega,by omega,Qc4 HLm.out hgb (hv12.store (o:=0) H_V.out (by decide) _),Qac (o:=0) H_V.out _,hp12.set (o:=0) (by omega) _,hBR2.set (o:=0) H_V.out (by decide) _,Qag (o:=0) H_R.out (by omega) _,hX12.set (p:=⟨w3.heap.size,0,none⟩) (.inr (show _≤w3.heap.size by omega)) _⟩
           case measure=>first | (simp[intOf];done) | (simp[intOf];omega)
          | false =>
           rw[hgb]at hcq;have c_hV_0:=Qaa (o:=0) hV_wz rfl;obtain rfl:gq=g9:=by cases hgq;rfl
           go_wp2_with fail
           refine(Qgx _ _ _).mono ?_;rintro e w12⟨rfl,hF⟩;have hv12:=hv_wz.later hF;have hR12:=Bk hF hR_wz;have hV12:=Bk hF hV_wz;have hs12:=hF.size;have hX12:=hX_wz.trans (.below hF);have hp12:=hp_wz.below hF;clear hv_wz hR_wz hV_wz hX_wz hp_wz c_hV_0;have hBR2:=hBR.ext (S:=fun _=>False) (.below hF) (fun _ h=>h.elim);clear hF hBR hcq;have c_hV_0:=Qaa (o:=0) hV12 rfl;have f_hV:=Qae hV12 0;have lt_hV:=Qad hV12
           have lt_hR:=Qad hR12;have H_V:=Hi hV12;have H_R:=Hi hR12;clear hV12 hR12;go_wp2;go_roundw
           case rel=>exact⟨_,209,_,rfl,by omega,by omega,Qck HLm.out hgb (hv12.store (o:=0) H_V.out (by decide) _),Qac (o:=0) H_V.out _,hp12.set (o:=0) (by omega) _,hBR2.set (o:=0) H_V.out (by decide) _,Qag (o:=0) H_R.out (by omega) _,hX12.set (p:=⟨w3.heap.size,0,none⟩) (.inr (show _≤w3.heap.size by omega)) _⟩
           case measure=>first | (simp[intOf];done) | (simp[intOf];omega)
def AccP(bp base:Nat)(w:World)(lhs:Value)(ts:Toks)(r:Option (Option (Ex×Toks)))(e:Ending)(w':World):Prop :=
 Ext (·=bp) w w'∧match r with
 | none=>∃T v,e=.returned (.tuple #[.agg #[.nilIface],.bool false,.iface T v])
 | some none=>e=.returned (.tuple #[.agg #[lhs],.bool false,.nilIface])∧PS w' bp base ts
 | some (some (x,us))=>∃T v,e=.returned (.tuple #[.agg #[.iface T v],.bool true,.nilIface])∧PS w' bp base us∧NodeIs w' base (.iface T v) x
def AccC(f:FuncId)(m:Ex→Toks→Option (Option (Ex×Toks)))(bp base N:Nat):Prop :=
 ∀w ts T v x,PS w bp base ts→Wf ts→ts.length≤N→base≤w.heap.size→NodeIs w base (.iface T v) x→Calls Tryz.prog f #[.pointer (some ⟨bp,0,none⟩),.agg #[.iface T v]] w (AccP bp base w (.iface T v) ts (m x ts))
def MemRel(L:Lex)(E:Toks→Option (Ex×Toks))(bp base N R B:Nat)(w:World)(Rm:Option (Ex×Toks))(s:Value)(wr:World):Prop :=
 ∃g y vs T v,s=.nilIface∧memL L E g y vs=Rm∧vs.length<g∧Wf vs∧vs.length≤N∧PS wr bp base vs∧NodeIs wr base (.iface T v) y∧wr.heap[B]? =some (.cells #[.iface T v] 299 (0,0))∧wr.heap[R]? =some (.cells #[.nilIface] 299 (0,0))∧Ext (·=bp) w wr
theorem member_w{L:Lex}{E:Toks→Option (Ex×Toks)}{bp base N:Nat}(hE:Sh E)(hP:FnC 257 (primary L E) bp base N)(hA:AccC 258 (access L E) bp base N):FnC 248 (member L E) bp base N:=by
 intro w ts hp hwf hN hbs;have hbb:=hp.hbp;have h15:=hp.h15;have hlen:=hp.len;have HP:=Hi hP;have HA:=Hi hA;have HE:=Hi hE;clear hP hA hE;go_enter Tryz.func248,Tryz.ntmps248
 go_upto_region 1 with(fail)
 obtain⟨w1,hw⟩:∃w1,(w.alloc (.cells #[.nilIface] 299))=w1:=⟨_,rfl⟩
 rw[hw];have hF:Below w.heap.size w w1:=by rw[←hw];exact Qab w _
 have hR1:w1.heap[w.heap.size]? =some (.cells #[.nilIface] 299 (0,0)):=by rw[←hw];exact Qah (by simp) _
 have hs1:w.heap.size+1≤w1.heap.size:=by rw[←hw];simp
 clear hw;have hX1:Ext (·=bp) w w1:=.below hF;have hp_w1:=hp.below hF;clear hp;clear hF
 go_wp2_with fail
 refine(HP.out _ _ hp_w1 hwf hN (by omega)).mono ?_;rintro e w2⟨hF,hr⟩;have hR2:=hF.heap (by omega) hR1;have hs2:=hF.size;have hX2:=hX1.trans hF;clear hR1 hX1;clear hF;cases hm:primary L E ts with
 | none =>
  rw[hm]at hr;obtain⟨T,v,rfl⟩:=hr;have c_hR_0:=Qaa (o:=0) hR2 rfl;have f_hR:∀o,(w2.alloc o).frozen? ⟨w.heap.size,0,none⟩=false:=fun o=>Qae (Qaf hR2 o) 0
  have lt_hR:=Qad hR2;have HR:=Hi (show member L E ts=none by unfold Pg.member;rw[hm]);have HB:=Hi hR2;clear hR2;go_wp2;refine Qai (R:=w.heap.size) _ 2 3 (by kernel_rfl) rfl rfl rfl (Qaf (Qac (o:=0) HB.out _) _) ?_;exact(Qak HR.out ((hX2.set (p:=⟨w.heap.size,0,none⟩) (.inr (show _≤w.heap.size by omega)) _).alloc _))
 | some p =>
  obtain⟨x,us⟩:=p;rw[hm]at hr;obtain⟨T,v,rfl,hp1,hn2⟩:=hr;have hsh:=QcS HE.out _ _ _ hwf hm;have hwu:=hsh.1.wf hwf;have hul:=hsh.2;have HF:=Hi (show member L E ts=memL L E (us.length+1) x us by unfold Pg.member;rw[hm]);clear hm hsh
  go_upto_region 4 with(fail)
  obtain⟨w3,hw⟩:∃w3,w2.alloc (.cells #[.iface T v] 299)=w3:=⟨_,rfl⟩
  rw[hw];have hF:Below w2.heap.size w2 w3:=by rw[←hw];exact Qab _ _
  have hB3:w3.heap[w2.heap.size]? =some (.cells #[.iface T v] 299 (0,0)):=by rw[←hw];exact heap_alloc_new _ _
  have hs3:w2.heap.size+1≤w3.heap.size:=by rw[←hw];simp
  clear hw;have hn3:=hn2.later hF;have hR3:=Bk hF hR2;have hX3:=hX2.trans (.below hF);have hp3:=hp1.below hF;clear hn2 hR2 hX2 hp1;clear hF
  go_loopw [5] (fun s wr=>MemRel L E bp base N (w.heap.size) (w2.heap.size) w (memL L E (us.length+1) x us) s wr) (fun _ wr=>left wr bp)
  case atStart=>exact⟨us.length+1,x,us,_,_,rfl,rfl,by omega,hwu,by omega,hp3,hn3,hB3,hR3,hX3⟩
  case round =>
   clear hp3 hn3 hB3 hR3 hX3;obtain⟨wo,rfl⟩:∃wo:World,wo=wr:=⟨_,rfl⟩
   obtain⟨g,y,vs,Ty,vy,rfl,hg,hgl,hvw,hvN,hp_wo,hn_wo,hB_wo,hR_wo,hX_wo⟩:=hrel;have HG:=Hi hg;clear hg;cases g with
   | zero=>omega
   | succ g =>
   have HLF:=Hi hp_wo.left;have hsz_wo:=hX_wo.size;have ltR:=Qad hR_wo;have ltB:=Qad hB_wo;have c_hB_0:=Qaa (o:=0) hB_wo rfl
   go_wp2_with fail
   refine(HA.out _ _ _ _ _ hp_wo hvw hvN (by omega) hn_wo).mono ?_;rintro e w4⟨hF,hr⟩;have hn4:=hn_wo.keep hF (fun d hd=>by omega);have hR4:=hF.heap (by omega) hR_wo;have hB4:=hF.heap (by omega) hB_wo;have hs4:=hF.size;have hX4:=hX_wo.trans hF;clear hn_wo hR_wo hB_wo hX_wo c_hB_0;clear hF;cases hm:access L E y vs with
   | none =>
    rw[hm]at hr;obtain⟨T2,v2,rfl⟩:=hr;have c_hB_0:=Qaa (o:=0) hB4 rfl;have f_hB:=Qae hB4 0;have lt_hB:=Qad hB4;have HB2:=Hi hB4;have HR3:=Hi (show member L E ts=none by rw[HF.out,←HG.out,memL,hm]);clear hm;have c_hR_0:=Qaa (o:=0) hR4 rfl;have f_hR:=Qae hR4 0;have lt_hR:=Qad hR4;have HRR:=Hi hR4;clear hR4 hB4;go_wp2;refine Qai (R:=w.heap.size) _ 2 3 (by kernel_rfl) rfl rfl rfl (Qac (o:=0) (Qag HRR.out (by omega) _) _) ?_
    exact Qak HR3.out ((hX4.set (p:=⟨w2.heap.size,0,none⟩) (.inr (show _≤w2.heap.size by omega)) _).set (p:=⟨w.heap.size,0,none⟩) (.inr (Nat.le_refl _)) _)
   | some o =>
    cases o with
    | none =>
     rw[hm]at hr;obtain⟨rfl,hp9⟩:=hr;have HR3:=Hi (show member L E ts=some (y,vs)by rw[HF.out,←HG.out,memL,hm]);clear hm;have c_hB_0:=Qaa (o:=0) hB4 rfl;have f_hB:=Qae hB4 0;have lt_hB:=Qad hB4;have lt_hR:=Qad hR4
     go_upto_region 6 with(fail)
     obtain⟨w5,hw⟩:∃w5,w4.setCell ⟨w2.heap.size,0,none⟩ (.iface Ty vy)=w5:=⟨_,rfl⟩
     rw[hw];have hn5:NodeIs w5 base _ _:=hw▸hn4.store (o:=0) hB4 (by decide) (.iface Ty vy);have hR5:w5.heap[w.heap.size]? =some (.cells #[.nilIface] 299 (0,0)):=hw▸Qag (o:=0) hR4 (by omega) (.iface Ty vy);have hB5:w5.heap[w2.heap.size]? =some (.cells #[.iface Ty vy] 299 (0,0)):=hw▸Qac (o:=0) hB4 (.iface Ty vy);have hX5:Ext (·=bp) w w5:=hw▸hX4.set (p:=⟨w2.heap.size,0,none⟩) (.inr (show w.heap.size≤w2.heap.size by omega)) (.iface Ty vy)
     have hs5:w4.heap.size≤w5.heap.size:=by rw[←hw];simp
     have hp5:PS w5 bp base _:=hw▸hp9.set (o:=0) (show base≤w2.heap.size by omega) (.iface Ty vy);clear hn4 hR4 hB4 hX4 hp9 c_hB_0 f_hB lt_hB lt_hR hw;have c_hB_0:=Qaa (o:=0) hB5 rfl;have c_hR_0:=Qaa (o:=0) hR5 rfl;have f_hR:=Qae hR5 0;have lt_hR:=Qad hR5;have HR:=Hi (HR3.out);have HB:=Hi hR5;clear hR5;go_wp2;refine Qai (R:=w.heap.size) _ 2 3 (by kernel_rfl) rfl rfl rfl (Qac (o:=0) HB.out _) ?_;exact(Qal HR.out (hX5.set (p:=⟨w.heap.size,0,none⟩) (.inr (show _≤w.heap.size by omega)) _) (hp5.set (o:=0) (by omega) _) (NodeIs.store (o:=0) (hn5) HB.out (by decide) _))
    | some p2 =>
     obtain⟨z,zs⟩:=p2;rw[hm]at hr;obtain⟨T2,v2,rfl,hp9,hz4⟩:=hr;have hsh:=Qdm HE.out _ _ _ _ hvw hm;have hwz:=hsh.1.wf hvw;have hzl:=hsh.2;have HG2:=Hi (show memL L E g z zs=memL L E (us.length+1) x us by rw[←HG.out,memL,hm]);clear hm hsh;clear hn4;have c_hB_0:=Qaa (o:=0) hB4 rfl;have f_hB:=Qae hB4 0;have lt_hB:=Qad hB4;have lt_hR:=Qad hR4
     go_upto_region 6 with(fail)
     obtain⟨w5,hw⟩:∃w5,w4.setCell ⟨w2.heap.size,0,none⟩ (.iface T2 v2)=w5:=⟨_,rfl⟩
     rw[hw];have hz5:NodeIs w5 base _ _:=hw▸hz4.store (o:=0) hB4 (by decide) (.iface T2 v2);have hR5:w5.heap[w.heap.size]? =some (.cells #[.nilIface] 299 (0,0)):=hw▸Qag (o:=0) hR4 (by omega) (.iface T2 v2);have hB5:w5.heap[w2.heap.size]? =some (.cells #[.iface T2 v2] 299 (0,0)):=hw▸Qac (o:=0) hB4 (.iface T2 v2);have hX5:Ext (·=bp) w w5:=hw▸hX4.set (p:=⟨w2.heap.size,0,none⟩) (.inr (show w.heap.size≤w2.heap.size by omega)) (.iface T2 v2)
     have hs5:w4.heap.size≤w5.heap.size:=by rw[←hw];simp
     have hp5:PS w5 bp base _:=hw▸hp9.set (o:=0) (show base≤w2.heap.size by omega) (.iface T2 v2);clear hz4 hR4 hB4 hX4 hp9 c_hB_0 f_hB lt_hB lt_hR hw;have c_hB_0:=Qaa (o:=0) hB5 rfl;go_wp2;go_roundw
     case rel=>exact⟨g,z,zs,_,_,rfl,HG2.out,by omega,hwz,by omega,hp5,hz5,hB5,hR5,hX5⟩
     case measure =>
      rw[hp5.left,HLF.out];exact hzl
end Go.Proofs.Pg
