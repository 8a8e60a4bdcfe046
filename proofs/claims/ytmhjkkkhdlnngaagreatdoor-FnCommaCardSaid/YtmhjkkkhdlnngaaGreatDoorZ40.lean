/- FnComma: a last comma changes nothing; for every world. Part 40. -/
import Derived.Test.YtmhjkkkhdlnngaaGreatDoorZ39
set_option linter.all false
set_option maxRecDepth 100000
set_option maxHeartbeats 40000000
namespace Go.Proofs.Pg
open Go.RowKit
attribute [local go_sem] Oper.semAt_some
def BufR(rb lo:Nat)(w:World)(l:List UInt8):Prop :=
 ∃(d o n cap off:Nat)(lr:Int)(cur:Array Value)(T:TypeId)(fr:Nat×Nat),d≠rb∧d<lo∧w.heap[rb]? =some (.cells #[.slice (some ⟨d,o,none⟩) n cap,.int .i64 off,.int .i8 lr] 247 (0,0))∧n≤cap∧(n≤1000000∧cap≤maxLen)∧off+l.length=n∧w.heap[d]? =some (.cells cur T fr)∧o+n≤cur.size∧(cur.toList.drop (o+off)).take l.length=Lib.byteCells l
theorem QhS{rb n off cap:Nat}{lr:Int}{sl:Option Addr}{w:World}(hb:w.heap[rb]? =some (.cells #[.slice sl n cap,.int .i64 off,.int .i8 lr] 247 (0,0)))(hn:n≤1000000)(ho:off≤1000000) :
  Calls Tryz.prog 341 #[.pointer (some ⟨rb,0,none⟩)] w fun e w'=>e=.returned (.bool (decide (n≤off)))∧∃k,w'=w.drewN k:=by
 have c0:w.cell? ⟨rb,0,none⟩=some (.slice sl n cap):=Qaa hb rfl;have c1:w.cell? ⟨rb,1,none⟩=some (.int .i64 off):=Qaa hb rfl;clear hb;go_enter Tryz.func341,Tryz.ntmps341
 go_wp2_with fail
 go_quiet (fail)
 go_wp2_with fail
 go_ret;exact⟨rfl,_,rfl⟩
theorem reset1_c{rb d o n off cap:Nat}{lr:Int}{w:World}(hb:w.heap[rb]? =some (.cells #[.slice (some ⟨d,o,none⟩) n cap,.int .i64 off,.int .i8 lr] 247 (0,0)))(hn:n≤cap)(hc:cap≤maxLen) :
  Calls Tryz.prog 123 #[.pointer (some ⟨rb,0,none⟩)] w fun e w'=>e=.returned (.tuple #[])∧Ext (fun d=>d=rb) w w'∧w'.heap[rb]? =some (.cells #[.slice (some ⟨d,o,none⟩) 0 cap,.int .i64 0,.int .i8 0] 247 (0,0)):=by
 have c0:w.cell? ⟨rb,0,none⟩=some (.slice (some ⟨d,o,none⟩) n cap):=Qaa hb rfl;have c1:w.cell? ⟨rb,1,none⟩=some (.int .i64 off):=Qaa hb rfl;have c2:w.cell? ⟨rb,2,none⟩=some (.int .i8 lr):=Qaa hb rfl;have f0:=Qae hb 0;have f1:=Qae hb 1;have f2:=Qae hb 2;have hlt:=Qad hb;have HB:=Hi hb;clear hb;go_enter Tryz.func123,Tryz.ntmps123
 go_wp2_with fail
 go_end0
 exact⟨rfl,(((Ext.refl (fun d=>d=rb) w).setb 0 (.slice (some ⟨d,o,none⟩) 0 cap)).setb 1 (.int .i64 0)).setb 2 (.int .i8 0),Qac (o:=2) (Qac (o:=1) (Qac (o:=0) HB.out _) _) _⟩
theorem cells3{w:World}{rb:Nat}{a b c:Value}(hb:w.heap[rb]? =some (.cells #[a,b,c] 247 (0,0)))(v:Value):(w.setCell ⟨rb,2,none⟩ v).heap[rb]? =some (.cells #[a,b,v] 247 (0,0)):=Qac (o:=2) hb v
theorem QhT{rb lo:Nat}{w:World}(h:BufR rb lo w [])(b off n:Nat)(cap:Nat)(q:Value)(hn:n≠0)(h0:rb≠0)(hq:w.cell? ⟨0,0,none⟩=some q) :
  Calls Tryz.prog 340 #[.pointer (some ⟨rb,0,none⟩),.slice (some ⟨b,off,none⟩) n cap] w fun e w'=>e=.returned (.tuple #[.int .i64 0,q])∧Ext (fun d=>d=rb) w w'∧BufR rb lo w' []:=by
 obtain⟨d,o,m,cp,of,lr,cur,T,fr,hd,hdl,hb,hmc,hcp,hof,hcur,hsz,hbytes⟩:=h;simp only[List.length_nil,Nat.add_zero]at hof;subst hof;have c2:w.cell? ⟨rb,2,none⟩=some (.int .i8 lr):=Qaa hb rfl;have f2:=Qae hb 2;have hlt:=Qad hb;have HB:=Hi hb;clear hb;go_enter Tryz.func340,Tryz.ntmps340
 go_upto_region 2 with(fail)
 have hb1:=cells3 HB.out (.int .i8 0);have E1:=(Ext.refl (fun d=>d=rb) w).setb 2 (.int .i8 0);refine Qba fun w1 hw1=>?_
 rw[←hw1]at hb1 E1;clear hw1 c2 f2;have hlt1:=Qad hb1;have HB1:=Hi hb1;clear hb1
 go_wp2_with fail
 refine(QhS HB1.out (by omega) (by omega)).mono ?_;rintro e w2⟨rfl,k,rfl⟩;have hb2:(w1.drewN k).heap[rb]? =_:=HB1.out;have E2:Ext (fun d=>d=rb) w (w1.drewN k):=E1.drewN k
 go_wp2_with fail
 refine(reset1_c hb2 hmc hcp.2).mono ?_;rintro e w3⟨rfl,E3,hb3⟩;have hq3:w3.cell? ⟨0,0,none⟩=some q:=(E2.trans E3).cell (p:=⟨0,0,none⟩) (fun e=>h0 e.symm) hq;have e1:((n:Int)==0)=false:=by simp[hn]
 go_wp2_with fail
 go_quiet (fail)
 go_wp2_with fail
 go_ret2
 have E4:=(E2.trans E3).drewN nq;refine⟨rfl,E4,d,o,0,cp,0,0,cur,T,fr,hd,hdl,hb3,Nat.zero_le _,⟨by omega,hcp.2⟩,rfl,E4.heap (fun e=>hd e) hcur,by omega,rfl⟩
theorem bsrc{l:List UInt8}{cur:List Value}{q:Nat}(h:(cur.drop q).take l.length=Lib.byteCells l){k j:Nat}{v:Value}(hj:(Lib.byteCells (l.take k))[j]? =some v):cur[q+j]? =some v:=by
 have e:Lib.byteCells (l.take k)=(Lib.byteCells l).take k:=by unfold Lib.byteCells;rw[List.map_take]
 rw[e,←h]at hj;obtain⟨hlt,hv⟩:=List.getElem?_eq_some_iff.1 hj;simp only[List.length_take]at hlt;rw[List.getElem?_take_of_lt (by omega),List.getElem?_take_of_lt (by omega),List.getElem?_drop]at hj;exact hj
theorem Qgt{rb lo:Nat}{w:World}{l:List UInt8}(h:BufR rb lo w l)(hl:l≠[])(b off n cap:Nat)(cur:Array Value)(T:TypeId)(hn:n≠0)(hn2:n≤2000)(hrb:rb<lo)(hlb:lo≤b)(hb:w.heap[b]? =some (.cells cur T (0,0)))(hoff:off+n≤cur.size) :
  Calls Tryz.prog 340 #[.pointer (some ⟨rb,0,none⟩),.slice (some ⟨b,off,none⟩) n cap] w (Got ⟨155,340,rb,BufR rb lo⟩ w l b off n cur T):=by
 have hl0:0<l.length:=List.length_pos_iff.2 hl;obtain⟨d,o,m,cp,of,lr,cu,T1,fr,hd,hdl,hr,hmc,hcp,hof,hcur,hsz,hbytes⟩:=h;obtain⟨k,hk⟩:∃k,Nat.min l.length n=k:=⟨_,rfl⟩
 have hk1:k≤l.length:=hk▸Nat.min_le_left _ _;have hk2:k≤n:=hk▸Nat.min_le_right _ _;have hk3:1≤k:=by rw[←hk];exact Nat.le_min.2 ⟨hl0,Nat.pos_of_ne_zero hn⟩
 have c2:w.cell? ⟨rb,2,none⟩=some (.int .i8 lr):=Qaa hr rfl;have f2:=Qae hr 2;have hlt:=Qad hr;have HB:=Hi hr;clear hr;have HBB:=Hi hb;clear hb;have HC:=Hi hcur;clear hcur;have HY:=Hi hbytes;clear hbytes;have HOF:=Hi hof;have HK:=Hi hk;clear hk;have HL:=Hi hl;clear hl;go_enter Tryz.func340,Tryz.ntmps340
 go_upto_region 2 with(fail)
 have hb1:=cells3 HB.out (.int .i8 0);have E1:=(Ext.refl (fun d=>d=rb) w).setb 2 (.int .i8 0);refine Qba fun w1 hw1=>?_
 rw[←hw1]at hb1 E1;clear hw1 c2 f2;have hlt1:=Qad hb1;have HB1:=Hi hb1;clear hb1
 go_wp2_with fail
 refine(QhS HB1.out (by omega) (by omega)).mono ?_;rintro e w2⟨rfl,dk,hw2⟩;have hb2:w2.heap[rb]? =some (.cells #[.slice (some ⟨d,o,none⟩) m cp,.int .i64 of,.int .i8 0] 247 (0,0)):=by rw[hw2];exact HB1.out
 have E2:Ext (fun d=>d=rb) w w2:=by rw[hw2];exact E1.drewN dk
 clear hw2 E1 HB1 hlt1 hlt;have hlt2:=Qad hb2;have c0:w2.cell? ⟨rb,0,none⟩=some (.slice (some ⟨d,o,none⟩) m cp):=Qaa hb2 rfl;have c1:w2.cell? ⟨rb,1,none⟩=some (.int .i64 of):=Qaa hb2 rfl;have hbb:w2.heap[b]? =some (.cells cur T (0,0)):=E2.heap (by omega) HBB.out;have hcc:w2.heap[d]? =some (.cells cu T1 fr):=E2.heap hd HC.out;have HB2:=Hi hb2;clear hb2;have e1:((n:Int)==0)=false:=by simp[hn]
 have e2:(decide (m≤of))=false:=by simp;omega
 have e3:¬m≤of:=by omega
 have g1:of≤m:=by omega
 have g2:m≤1000000:=by omega
 have g3:¬cp=of:=by omega
 have hcp2:(Builtin.copy_ #[78,78] 3 #[.slice (some ⟨b,off,none⟩) n cap,.slice (some ⟨d,o+of,none⟩) (m-of) (cp-of)]).run Tryz.prog w2.drew=.ok (goInt (k:Int)) (w2.drew.setRow b (spl cur off (l.take k))):=by
  have hlen:(Lib.byteCells (l.take k)).length=k:=by rw[Lib.byteCells_length,List.length_take];omega
  have:=run_copy_row (P:=Tryz.prog) w2.drew 78 78 3 5 b off n cap ⟨d,o+of,none⟩ (m-of) (cp-of) cur T (Lib.byteCells (l.take k)) Qhd Qhc hbb (by rw[hlen,←HK.out];congr 1;omega) (fun j v hj=>by
   rw[QcE];have:=bsrc HY.out hj;exact Qaa hcc (by simpa using this)) (by rw[hlen];omega) (Lib.byteCells_one _)
  rw[hlen]at this;rw[this];unfold spl;rw[List.length_take,show min k l.length=k by omega]
 have HBB2:=Hi hbb;clear hbb;have HCC2:=Hi hcc;clear hcc;clear HBB HC
 go_wp2_with fail
 refine QaK 10 (by kernel_rfl) (by kernel_rfl) ?_;simp only[List.take_succ_cons,List.take_zero,List.drop_succ_cons,List.drop_zero]
 repeat still_step
 refine wpStill_nil ?_
 go_upto_region 8 with(fail)
 refine Qba fun w3 hw3=>?_
 have hb3:w3.heap[b]? =some (.cells (spl cur off (l.take k)) T (0,0)):=hw3▸setRow_heap w2.drew b cur _ T (0,0) HBB2.out;have E3:Ext (fun x=>x=b) w2 w3:=hw3▸(Ext.refl (fun d=>d=b) w2).drew.trans (QdM w2.drew _);clear hw3 hcp2 c0 c1 hlt2;have hr3:=E3.heap (by omega) HB2.out;have hc3:=E3.heap (by omega) HCC2.out;have c1:w3.cell? ⟨rb,1,none⟩=some (.int .i64 of):=Qaa hr3 rfl;have f1:=Qae hr3 1;have c2:w3.cell? ⟨rb,2,none⟩=some (.int .i8 0):=Qaa hr3 rfl
 have f2:=Qae hr3 2;have hlt3:=Qad hr3;have g5:(0:Int)<k:=by omega
 have g6:(of:Int)+(k:Int)≤2000000:=by omega
 have g7:IntKind.i64.wrap ((of:Int)+(k:Int))=((of+k:Nat):Int):=by
  rw[Int.natCast_add];unfold IntKind.wrap;simp[IntKind.bits];omega
 have HR3:=Hi hr3;clear hr3;have HC3:=Hi hc3;clear hc3;have HB3:=Hi hb3;clear hb3;have HE3:=Hi E3;clear E3
 go_wp2_with fail
 ·go_ret2
  have E4:Ext (fun d=>d=rb) w3 ((w3.setCell ⟨rb,1,none⟩ (.int .i64 ((of:Int)+(k:Int)))).setCell ⟨rb,2,none⟩ (.int .i8 (-1))):=((Ext.refl (fun d=>d=rb) w3).setb 1 _).setb 2 _;have hE:=(E2.mono (S':=fun x=>x=rb∨x=b) fun x h=>.inl h).trans ((HE3.out.mono fun x h=>.inr h).trans (E4.mono fun x h=>.inl h));refine⟨k,hk3,hk2,hk1,rfl,E4.heap (by omega) HB3.out,hE,d,o,m,cp,of+k,-1,cu,T1,fr,hd,hdl,?_,hmc,hcp,?_,E4.heap hd HC3.out,hsz,?_⟩
  ·rw[Int.natCast_add]
   exact Qac (o:=2) (Qac (o:=1) HR3.out _) _
  ·rw[List.length_drop];omega
  ·have e:Lib.byteCells (l.drop k)=(Lib.byteCells l).drop k:=by unfold Lib.byteCells;rw[List.map_drop]
   rw[e,←HY.out,List.length_drop,List.drop_take,List.drop_drop];rw[Nat.add_assoc]
def bufRdr(rb lo:Nat):Rdr:=⟨155,340,rb,BufR rb lo⟩
theorem bufLaw{rb lo:Nat}(hrb:rb<lo)(h15:15≤rb):RdLaw (bufRdr rb lo) lo where
 hrb:=hrb
 h15:=h15
 ahead:=fun w=>by
  show(nilAhead 580 155 (.pointer (some ⟨rb,0,none⟩)) "Read").run Tryz.prog w=_
  kernel_rfl
 meth:=fun w=>by
  show(Go.method 580 155 (.pointer (some ⟨rb,0,none⟩)) "Read").run Tryz.prog w=_
  kernel_rfl
 ent:=fun args w=>by
  show(callFunc 340 args).run Tryz.prog w=_
  kernel_rfl
 keep:=fun w w' l h he=>by
  obtain⟨d,o,m,cp,of,lr,cu,T1,fr,hd,hdl,hr,hmc,hcp,hof,hcur,hsz,hbytes⟩:=h;exact⟨d,o,m,cp,of,lr,cu,T1,fr,hd,hdl,he.heap (Nat.not_le.2 hrb) hr,hmc,hcp,hof,he.heap (Nat.not_le.2 hdl) hcur,hsz,hbytes⟩
 atEnd:=fun w b off n cap q h hn hq=>(QhT h b off n cap q hn (by omega) hq)
 more:=fun w l b off n cap cur T h hl hn hn2 hb hc ho=>Qgt h hl b off n cap cur T hn hn2 hrb hb hc ho
theorem newbuf_c(w:World)(a:Option Addr)(n cap:Nat):Calls Tryz.prog 61 #[.slice a n cap] w fun e w'=>e=.returned (.pointer (some ⟨w.heap.size,0,none⟩))∧w'=w.alloc (.cells #[.slice a n cap,.int .i64 0,.int .i8 0] 247):=by
 go_enter Tryz.func61,Tryz.ntmps61
 go_wp2_with fail
 go_ret;exact⟨rfl,rfl⟩
theorem TzP.low{t:List UInt8}{rb lo lo':Nat}{w0 w1 w':World}{Res:Option (List Tok)}{e:Ending}(h:TzP (t:=t) rb lo w1 Res e w')(hx:Ext (fun d=>d=rb) w0 w1)(hl:lo'≤lo):TzP (t:=t) rb lo' w0 Res e w':=by
 obtain⟨h1,h2⟩:=h;refine⟨hx.trans h1,?_⟩;cases Res with
 | none=>exact h2
 | some ts =>
  obtain⟨g,cap,he,hg,hr⟩:=h2;exact⟨g,cap,he,Nat.le_trans hl hg,hr⟩
theorem tokz_c{t:List UInt8}{w:World}{d o n cap:Nat}{cu:Array Value}{T:TypeId}{fr:Nat×Nat}(hc:w.heap[d]? =some (.cells cu T fr))(hsz:o+n≤cu.size)(hb:(cu.toList.drop o).take t.length=Lib.byteCells t)(hn:t.length=n)(hl:n≤900000)(hnc:n≤cap)(hcap:cap≤maxLen)
  (hT:Lib.Utf8Tabs 1 2 w)(hE:∃a,w.cell? ⟨0,0,none⟩=some (.iface 346 (.pointer (some a))))(h15:15≤w.heap.size) :
  Calls Tryz.prog 46 #[.slice (some ⟨d,o,none⟩) n cap] w (TzP (t:=t) w.heap.size w.heap.size w (toks t)):=by
 have hlt:=Qad hc;have HB:=Hi hb;clear hb;go_enter Tryz.func46,Tryz.ntmps46
 go_wp2_with fail
 refine(newbuf_c w _ _ _).mono ?_;rintro e w1⟨rfl,hw1⟩;have hb1:w1.heap[w.heap.size]? =some (.cells #[.slice (some ⟨d,o,none⟩) n cap,.int .i64 0,.int .i8 0] 247 (0,0)):=hw1▸heap_alloc_new w _;have B1:Below w.heap.size w w1:=hw1▸Qab w _;have hz1:w1.heap.size=w.heap.size+1:=by rw[hw1];simp
 clear hw1;have X1:Ext (fun d=>d=w.heap.size) w w1:=.below B1;have hR1:(bufRdr w.heap.size w1.heap.size).R w1 t:=⟨d,o,n,cap,0,0,cu,T,fr,by omega,by omega,hb1,hnc,⟨by omega,hcap⟩,by omega,X1.heap (by omega) hc,hsz,HB.out⟩;have hT1:=Qbg hT X1 (by omega) (by omega);have hE1:∃a,w1.cell? ⟨0,0,none⟩=some (.iface 346 (.pointer (some a))):=by
  obtain⟨a,ha⟩:=hE;exact⟨a,X1.cell (p:=⟨0,0,none⟩) (show ¬(0=w.heap.size)by omega) ha⟩
 go_wp2_with fail
 refine(Qgs hR1 hT1 hE1 (by omega) (by omega) (bufLaw (by omega) h15)).mono ?_;rintro e w2 h2;replace h2:=TzP.low h2 X1 (show w.heap.size≤w1.heap.size by omega);have H2:=Hi h2;generalize toks t=Res at *;cases Res with
 | none =>
  obtain⟨hx,T',p,rfl⟩:=h2;clear hx
  go_wp2_with fail
  go_ret2
  exact H2.out
 | some ts =>
  obtain⟨hx,g,cp,rfl,hr⟩:=h2;clear hx hr
  go_wp2_with fail
  go_ret2
  exact H2.out
theorem newp_c(w:World)(a:Option Addr)(n cap:Nat):Calls Tryz.prog 52 #[.slice a n cap] w fun e w'=>e=.returned (.agg #[.slice a n cap,.int .i64 0])∧Below w.heap.size w w':=by
 go_enter Tryz.func52,Tryz.ntmps52
 go_wp2_with fail
 exact bodyPost_ret (Qao (a:=2) (t:=142) (by kernel_rfl) _ ⟨w.heap.size,0,none⟩ rfl _ _ (QeP _ _ _ _ _ (by kernel_rfl) (by kernel_rfl) (Qaa (o:=0) (heap_alloc_new w _) rfl) (Qaa (o:=1) (heap_alloc_new w _) rfl))) rfl ⟨rfl,Qab w _⟩
theorem QfH:∀(ts:List Tok)(i j:Nat)(t:Tok)(v:Value),ts[i]? =some t→j<6→t.row[j]? =some v→(rows ts)[i*6+j]? =some v
 | [],i,j,t,v,h,_,_=>by simp at h
 | k::ts,0,j,t,v,h,hj,hv=>by
  simp at h;subst h;have hsz:k.row.toList.length=6:=rfl;rw[show rows (k::ts)=k.row.toList++rows ts from rfl,List.getElem?_append_left (by omega)];simpa using hv
 | k::ts,i+1,j,t,v,h,hj,hv=>by
  have hsz:k.row.toList.length=6:=rfl;rw[show rows (k::ts)=k.row.toList++rows ts from rfl,List.getElem?_append_right (by omega),hsz,show(i+1)*6+j-6=i*6+j by omega];exact QfH ts i j t v (by simpa using h) hj hv
theorem QhU{w:World}{g:Nat}{cur:Array Value}{ts:List Tok}(hg:w.heap[g]? =some (.cells cur 122 (0,0)))(hr:cur.toList.take (ts.length*6)=rows ts)(hs:∀k∈ts,k.tx.size≤1000000)(i:Nat)(t:Tok)(hi:ts[i]? =some t):TokAt w g (i*6) t:=by
 have hlt:=(List.getElem?_eq_some_iff.1 hi).1;have hc:∀j v,j<6→t.row[j]? =some v→w.cell? ⟨g,i*6+j,none⟩=some v:=fun j v hj hv=>by
  have h:=QfH ts i j t v hi hj hv;rw[←hr,List.getElem?_take_of_lt (by omega)]at h;exact Qaa hg (by simpa using h)
 exact⟨hc 0 _ (by decide) rfl,hc 1 _ (by decide) rfl,hc 2 _ (by decide) rfl,hc 3 _ (by decide) rfl,hc 4 _ (by decide) rfl,hc 5 _ (by decide) rfl,hs t (List.mem_of_getElem? hi)⟩
theorem QfI(t:List UInt8):∀(f:Nat)(acc:List Tok)(p:Tok×Sc)(ts:List Tok),Qde t f acc p=some ts→∃l σ,ts=l++[Qf4 σ]
 | 0,acc,p,ts,h=>by cases h
 | f+1,acc,p,ts,h=>by
  rw[Qde]at h;split at h
  ·cases h
  ·split at h
   ·cases h;exact⟨acc,p.2,rfl⟩
   ·exact QfI t f _ _ ts h
theorem QfJ:(⟨#[]⟩:ByteArray).toList=[]:=by
 first
 | rfl
 | decide
 | (unfold ByteArray.toList;unfold ByteArray.toList.loop;simp[ByteArray.size])
theorem QhV(σ:Sc):∀l:List Tok,Wf (l++[Qf4 σ])
 | []=>⟨rfl,QfJ⟩
 | [_]=>⟨rfl,QfJ⟩
 | _::b::l=>QhV σ (b::l)
theorem QhW{t:List UInt8}{ts:List Tok}(h:toks t=some ts):Wf ts:=by
 obtain⟨l,σ,rfl⟩:=QfI t _ _ _ _ h;exact QhV σ l
def pol0:Array Value:=#[.bool false,.slice none 0 0,.nilIface,.nilIface,.nilIface,.slice none 0 0,.string ⟨#[]⟩,.int .i64 0,.int .i64 0,.int .i64 0]
theorem pol0_no{tb:Nat}{TT:TypeId}{x:World}(hb:x.heap[tb]? =some (.cells pol0 TT (0,0)))(o:Nat)(t:Tok):¬TokAt x tb o t:=by
 intro h;have hc:∀i,x.cell? ⟨tb,i,none⟩=pol0[i]? := fun i=>by
  simp[World.cell?,hb]
 have h0:=h.c0;have h1:=h.c1;rw[hc]at h0 h1
 match o,h0,h1 with
 | 0,h0,_=>cases h0
 | 1,h0,_=>cases h0
 | 2,h0,_=>cases h0
 | 3,h0,_=>cases h0
 | 4,h0,_=>cases h0
 | 5,h0,_=>cases h0
 | 6,h0,_=>cases h0
 | 7,_,h1=>cases h1
 | 8,_,h1=>cases h1
 | 9,_,h1=>cases h1
 | n+10,h0,_=>simp[pol0]at h0
def UcP(tb:Nat)(TT:TypeId)(w:World)(R:Option (Pol×Toks))(e:Ending)(w':World):Prop :=
 Ext (fun d=>d=tb) w w'∧match R with
 | none=>∃T v,e=.returned (.iface T v)
 | some (P,_)=>e=.returned .nilIface∧∃base B,w.heap.size≤base∧w.heap.size≤B∧QhO w' base B tb TT P
def QcD(L:Lex)(t:List UInt8):Option (Pol×Toks):=(toks t).bind fun ts=>Qa2 L (expr L ts.length) ts
theorem unm_c{L:Lex}(hL:LexC L)(hext:∀s,L.ext s=(extM s).map (·.2)){t:List UInt8}{w:World}{tb d o n cap:Nat}{TT:TypeId}{cu:Array Value}{T:TypeId}{fr:Nat×Nat}(ht:w.heap[tb]? =some (.cells pol0 TT (0,0)))(htb:15≤tb)
  (hTT:TT≠133∧TT≠138∧TT≠167∧TT≠136∧TT≠221∧TT≠316)(hc:w.heap[d]? =some (.cells cu T fr))(hsz:o+n≤cu.size)(hb:(cu.toList.drop o).take t.length=Lib.byteCells t)(hn:t.length=n)(hl:n≤900000)(hnc:n≤cap)(hcap:cap≤maxLen)(hG:Glob w)(hE:∃a,w.cell? ⟨0,0,none⟩=some (.iface 346 (.pointer (some a)))) :
  Calls Tryz.prog 47 #[.pointer (some ⟨tb,0,none⟩),.slice (some ⟨d,o,none⟩) n cap] w (UcP tb TT w (QcD L t)):=by
 have hlt:=Qad ht;have HT:=Hi ht;clear ht;have HLL:=Hi hL;clear hL;have HEX:=Hi hext;clear hext;have HTT:=Hi hTT;clear hTT;go_enter Tryz.func47,Tryz.ntmps47
 go_wp2_with fail
 refine(tokz_c hc hsz hb hn hl hnc hcap hG.tabs hE (by omega)).mono ?_;rintro e w1⟨X1,h1⟩;clear hc hsz hb hE;cases htk:toks t with
 | none =>
  rw[htk]at h1;have HPO:Hid (QcD L t=none):=Hi (by unfold QcD;rw[htk];rfl);obtain⟨T',p,rfl⟩:=h1;clear htk
  go_wp2_with fail
  go_ret;rw[HPO.out];exact⟨⟨X1.os,X1.tape,X1.output,X1.size,fun x hx hne=>X1.block x hx (by omega)⟩,_,_,rfl⟩
 | some ts =>
  rw[htk]at h1;obtain⟨g,cp,rfl,hg1,⟨cur,hg2,hg3⟩,hg4,hg5⟩:=h1;have HWF:=Hi (QhW htk);have HPO:Hid (QcD L t=Qa2 L (expr L ts.length) ts):=Hi (by unfold QcD;rw[htk];rfl);clear htk
  go_wp2_with fail
  refine(newp_c w1 _ _ _).mono ?_;rintro e w2⟨rfl,B2⟩
  go_upto_region 5 with(fail)
  refine Qba fun w3 hw3=>?_
  have hb3:w3.heap[w2.heap.size]? =some (.cells #[.slice (some ⟨g,0,none⟩) ts.length cp,.int .i64 0] 142 (0,0)):=hw3▸heap_alloc_new w2 _;have B3:Below w2.heap.size w2 w3:=hw3▸Qab w2 _;have hz3:w3.heap.size=w2.heap.size+1:=by rw[hw3];simp
  clear hw3;have X13:Ext (fun _=>False) w1 w3:=(Ext.below B2).trans (.below B3);have X3:Ext (fun x=>x=w.heap.size) w w3:=X1.trans (X13.mono fun _ h=>h.elim);have hg3':=X13.heap (fun h=>h) hg2;have hglt:=Qad hg2;have h12:=B2.size;have h01:=X1.size;have ht3:=X3.heap (show ¬tb=w.heap.size by omega) HT.out;have hG3:Glob w3:=hG.ext X3 (fun d hd=>by subst hd;omega) (by omega);have hne:ts≠[]:=fun e=>by have:=HWF.out;rw[e]at this;exact this
  have hp:PS w3 w2.heap.size w3.heap.size ts:=PS.of (bt:=g) (off:=0) (n:=ts.length) (cap:=cp) (k:=0) (by omega) hb3 (by omega) (by omega) (by omega) hne (fun i t' hi=>by rw[Nat.zero_add,Nat.zero_add];exact QhU hg3' hg3 hg4 i t' hi) (by omega) (by omega) hG3 (by omega);have HX3:=Hi X3;clear hg3' hg2 hg3 hb3 X13 X1 X3;obtain⟨bp,hbp⟩:∃bp,w2.heap.size=bp:=⟨_,rfl⟩
  have hbpg:w.heap.size≤bp:=by omega
  rw[hbp]at hp ⊢
  go_wp2_with fail
  refine(policy_w HLL.out (QdZ ts.length) (expr_c HLL.out HEX.out ts.length) w3 ts hp HWF.out (Nat.le_refl _) (Nat.le_refl _) (.inr ⟨htb,by omega,fun x o t' hx=>pol0_no (hx.trans ht3) o t'⟩) HTT.out ht3).mono ?_;rintro e w4⟨X4,h4⟩;have hX:Ext (fun x=>x=tb) w w4:=by
   refine⟨X4.os.trans HX3.out.os,X4.tape.trans HX3.out.tape,X4.output.trans HX3.out.output,Nat.le_trans HX3.out.size X4.size,fun x hx hne=>?_⟩;exact(X4.block x (by omega) (fun h=>h.elim (fun h=>by omega) hne)).trans (HX3.out.block x hx (by omega))
  cases hpm:Qa2 L (expr L ts.length) ts with
  | none =>
   rw[hpm]at h4;have HP2:=Hi (HPO.out.trans hpm);clear hpm;obtain⟨T',v',rfl⟩:=h4
   go_wp2_with fail
   go_ret;rw[HP2.out];exact⟨hX,_,_,rfl⟩
  | some r =>
   obtain⟨P,us⟩:=r;rw[hpm]at h4;have HP2:=Hi (HPO.out.trans hpm);clear hpm;obtain⟨rfl,hps,hpol⟩:=h4;have HPL:=Hi hpol;clear hps hpol
   go_wp2_with fail
   go_ret;rw[HP2.out];exact⟨hX,rfl,_,_,by omega,by omega,HPL.out⟩
end Go.Proofs.Pg
namespace Go.Proofs.Pg
theorem QdR(t:List UInt8)(ht:t.length≤1000000):∀(f:Nat)(acc:List Tok)(p:Tok×Sc)(ts:List Tok),Qde t f acc p=some ts→p.1.tx.size≤1000000→(∀k∈acc,k.tx.size≤1000000)→ts.length≤acc.length+f∧∀k∈ts,k.tx.size≤1000000
 | 0,_,_,_,h,_,_=>by cases h
 | f+1,acc,p,ts,h,hp,ha=>by
  rw[Qde]at h;split at h
  ·cases h
  ·split at h
   ·cases h
    refine⟨by rw[List.length_append,List.length_singleton];omega,fun k hk=>?_⟩;rcases List.mem_append.1 hk with hk | hk
    ·exact ha k hk
    ·rw[List.mem_singleton.1 hk];exact Nat.zero_le _
   ·have:=QdR t ht f _ _ _ h (tokSz t ht _) (fun k hk=>by
     rcases List.mem_append.1 hk with hk | hk
     ·exact ha k hk
     ·rw[List.mem_singleton.1 hk];exact hp)
    exact⟨by have h1:=this.1;rw[List.length_append,List.length_singleton]at h1;omega,this.2⟩
theorem QhX{t:List UInt8}{ts:List Tok}(ht:t.length≤800000)(h:toks t=some ts):Good ts:=by
 have h1:=QdR t (by omega) _ _ _ _ h (tokSz t (by omega) _) (fun k hk=>by cases hk);exact⟨QhW h,by have:=h1.1;rw[List.length_nil]at this;omega,h1.2⟩
theorem QdS{L:Lex}:∀(f:Nat)(acc:List (ByteArray×ByteArray))(ts us:Toks)(l:List (ByteArray×ByteArray)),Qb9 L f acc ts=some (l,us)→l.length≤acc.length+f
 | 0,_,_,_,_,he=>by cases he
 | f+1,acc,ts,us,l,he=>by
  rw[Qb9]at he;split at he
  ·split at he
   ·cases he
   ·have:=QdS f _ _ _ _ he
    rw[List.length_append,List.length_singleton]at this;omega
  ·cases he;omega
theorem QeJ{L:Lex}:∀(f:Nat)(acc:List (ByteArray×ByteArray))(ts us:Toks)(l:List (ByteArray×ByteArray)),Qcg L f acc ts=some (l,us)→l.length≤acc.length+f
 | 0,_,_,_,_,he=>by cases he
 | f+1,acc,ts,us,l,he=>by
  rw[Qcg]at he;split at he
  ·cases he;omega
  ·split at he
   ·cases he
   ·split at he
    ·have:=QeJ f _ _ _ _ he
     rw[List.length_append,List.length_singleton]at this;omega
    ·split at he
     ·cases he;rw[List.length_append,List.length_singleton];omega
     ·cases he
theorem QeK{E:Toks→Option (Ex×Toks)}(hE:Sh E)(hO:OkF E):∀(f:Nat)(acc:List (Bool×Ex))(ts us:Toks)(l:List (Bool×Ex)),Good ts→(∀c∈acc,OkE c.2)→Qbh E f acc ts=some (l,us)→l.length≤acc.length+f∧∀c∈l,OkE c.2
 | 0,_,_,_,_,_,_,he=>by cases he
 | f+1,acc,ts,us,l,h,ha,he=>by
  have key:∀(b:Bool)(x:Ex)(vs:Toks),cond E (adv ts)=some (x,vs)→Qbh E f (acc++[(b,x)]) vs=some (l,us)→l.length≤acc.length+(f+1)∧∀c∈l,OkE c.2:=by
   intro b x vs hv he;have h1:=h.adv.sf (Qdr hE h.adv.wf hv);have hx:OkE x:=by
    rw[cond]at hv;split at hv
    ·cases hv
    ·rename_i zs hz
     split at hv
     ·cases hv
     ·rename_i y ws hw
      split at hv
      ·cases hv
      ·cases hv
       exact hO _ _ _ (h.adv.sf (QaC h.adv.wf hz)) hw
   have:=QeK hE hO f _ _ _ _ h1 (fun c hc=>(List.mem_append.1 hc).elim (ha c) (fun k=>by rw[List.mem_singleton.1 k];exact hx)) he;exact⟨by have h9:=this.1;rw[List.length_append,List.length_singleton]at h9;omega,this.2⟩
  rw[Qbh]at he;split at he
  ·split at he
   ·cases he
   ·rename_i x vs hv
    exact key _ _ _ hv he
  ·split at he
   ·split at he
    ·cases he
    ·rename_i x vs hv
     exact key _ _ _ hv he
   ·cases he;exact⟨by omega,ha⟩
theorem QdT{L:Lex}{wd:List UInt8}{ts us:Toks}{s:Scp}(he:Qat L wd ts=some (s,us)):∀l,s≠.inSet l:=by
 intro l hs;subst hs;unfold Qat at he
 repeat' split at he
 all_goals cases he
theorem Qgu{L:Lex}{ts us:Toks}{s:Scp}(h:Good ts)(he:QaI L ts=some (s,us)):∀l,s=.inSet l→l.length≤1000000:=by
 intro l hs;subst hs;unfold QaI at he;split at he
 ·cases he
 ·rename_i vs hv
  have h1:=h.sf (QaC h.wf hv);split at he
  ·split at he<;>cases he
  ·split at he
   ·split at he
    ·split at he
     ·cases he
     ·rename_i z zs hz
      cases he;have:=QeJ _ _ _ _ _ hz;have h9:=h1.adv.adv.len;rw[List.length_nil]at this;omega
    ·split at he<;>cases he
   ·cases he
theorem QhY{L:Lex}{E:Toks→Option (Ex×Toks)}(hE:Sh E)(hO:OkF E){ts us:Toks}{P:Pol}(h:Good ts)(he:Qa2 L E ts=some (P,us)):OkPol P:=by
 unfold Qa2 at he;simp only[Option.bind_eq_some_iff]at he;obtain⟨a,ha,b,hb,t3,h3,c,hc,t5,h5,d,hd,t7,h7,e,he',t10,h10,f,hf,t12,h12,hlast⟩:=he;cases hlast;have g1:=h.sf (Qeb h.wf (l:=a.1) (us:=a.2) ha);have g2:=g1.sf (Qfc g1.wf (b:=b.1) (us:=b.2) hb);have g3:=g2.sf (QaC g2.wf h3);have g4:=g3.sf (Qb6 g3.wf (s:=c.1) (us:=c.2) hc);have g5:=g4.sf (QaC g4.wf h5);have g6:=g5.sf (QcU g5.wf (s:=d.1) (us:=d.2) hd)
 have g7:=g6.sf (QaC g6.wf h7);have g8:=g7.sf (Qb6 g7.wf (s:=e.1) (us:=e.2) he');have g9:Good (Qds e.2):=by unfold Qds;split;exact g8.adv;exact g8
 have g10:=g9.sf (QaC g9.wf h10);have hcs:=QeK hE hO _ _ _ _ _ g10 (fun c hc=>by cases hc) hf;have hns:=QdS _ _ _ _ _ ha;refine⟨?_,?_,hcs.2,fun l hl=>absurd hl (QdT hc l),Qgu g5 hd,fun l hl=>absurd hl (QdT he' l)⟩
 ·have:=h.len;rw[List.length_nil]at hns;show a.1.length≤_;omega
 ·have:=g10.len;have h9:=hcs.1;rw[List.length_nil]at h9;show f.1.length≤_;omega
theorem polOf_ok{t:List UInt8}(ht:t.length≤800000){P:Pol}{us:Toks}(h:QcD lx t=some (P,us)):OkPol P:=by
 unfold QcD at h;cases htk:toks t with
 | none=>rw[htk]at h;cases h
 | some ts =>
  rw[htk]at h;exact QhY (QdZ ts.length) (QhM (fun s p hs hp=>patM_len hs hp) _) (QhX ht htk) h
end Go.Proofs.Pg
namespace Go.Proofs.Pg
open Go.RowKit
attribute [local go_sem] Oper.semAt_some
theorem QhZ(s:ByteArray)(cap:Nat):((bytesRow s cap).toList.drop 0).take s.data.toList.length=Lib.byteCells s.data.toList:=by
 rw[List.drop_zero,bytesRow];simp[Lib.byteCells]
abbrev pZl:List Value:=[.bool false,.slice none 0 0,.int .i64 0,.string ⟨#[]⟩,.string ⟨#[]⟩,.slice none 0 0,.string ⟨#[]⟩,.int .i64 0,.string ⟨#[]⟩,.string ⟨#[]⟩,.slice none 0 0,.string ⟨#[]⟩,.int .i64 0,.string ⟨#[]⟩,.string ⟨#[]⟩,.slice none 0 0,.string ⟨#[]⟩,.slice none 0 0]
theorem ScsIs.extT{w w':World}{U S:Nat→Prop}{cs:List Value}{x:PSc}(h:ScsIs w U cs x)(he:Ext S w w')(hs:∀d c fr,w.heap[d]? =some (.cells c 56 fr)→¬S d):ScsIs w' U cs x:=by
 obtain⟨p,c,h1,h2⟩:=h;exact⟨p,c,h1,h2.extT he hs⟩
theorem PpIs.extT{w w':World}{U S:Nat→Prop}{cs:List Value}{P:PPol}(h:PpIs w U cs P)(he:Ext S w w')(hs:∀d c T fr,w.heap[d]? =some (.cells c T fr)→T≠62→¬S d):PpIs w' U cs P:=by
 obtain⟨pn,cn,c1,c2,c3,pc,cc,cells,h1,h2,h3,h4,h5,h6,h7⟩:=h;exact⟨pn,cn,c1,c2,c3,pc,cc,cells,h1,h2.extT he (fun d c fr q=>hs d c _ fr q (by decide)),h3.extT he (fun d c fr q=>hs d c _ fr q (by decide)),h4.extT he (fun d c fr q=>hs d c _ fr q (by decide)),h5.extT he (fun d c fr q=>hs d c _ fr q (by decide)),h6.extT he (fun d c fr q=>hs d c _ fr q (by decide)),h7.extT he (fun d c fr q=>hs d c _ fr q (by decide)) (fun d c fr q=>hs d c _ fr q (by decide))⟩
theorem ScsIs.mono{w:World}{U U':Nat→Prop}{cs:List Value}{x:PSc}(h:ScsIs w U cs x)(hu:∀d,U d→U' d):ScsIs w U' cs x:=by
 obtain⟨p,c,h1,h2⟩:=h;exact⟨p,c,h1,h2.mono hu⟩
theorem CnIs.mono{w:World}{U U':Nat→Prop}{cs:List Value}{l:List (Bool×PEx)}(h:CnIs w U cs l)(hu:∀d,U d→U' d):CnIs w U' cs l:=⟨h.1,fun i a hi=>⟨(h.2 i a hi).1,(h.2 i a hi).2.mono hu⟩⟩
theorem PpIs.mono{w:World}{U U':Nat→Prop}{cs:List Value}{P:PPol}(h:PpIs w U cs P)(hu:∀d,U d→U' d):PpIs w U' cs P:=by
 obtain⟨pn,cn,c1,c2,c3,pc,cc,cells,h1,h2,h3,h4,h5,h6,h7⟩:=h;exact⟨pn,cn,c1,c2,c3,pc,cc,cells,h1,h2.mono hu,h3.mono hu,h4.mono hu,h5.mono hu,h6.mono hu,h7.mono hu⟩
def ParP(w:World)(r:Option PPol)(e:Ending)(w':World):Prop:=Below w.heap.size w w'∧match r with
 | none=>e=.returned (.tuple #[.agg pZl.toArray,.bool false])
 | some P=>∃cs,PpIs w' (w.heap.size≤·) cs P∧e=.returned (.tuple #[.agg cs.toArray,.bool true])
def WG(w:World):Prop:=Glob w∧(∃a,w.cell? ⟨0,0,none⟩=some (.iface 346 (.pointer (some a))))∧15≤w.heap.size
theorem par_c(s:ByteArray)(hs:s.size≤800000)(w:World)(hG:WG w):Calls Tryz.prog 30 #[.string s] w (ParP w ((QcD lx s.data.toList).map fun x=>Qb1 x.1)):=by
 have HPO:=Hi (fun P us (h:QcD lx s.data.toList=some (P,us))=>polOf_ok (show s.data.toList.length≤800000 from hs) h);obtain⟨hG,hE,h15⟩:=hG;go_enter Tryz.func30,Tryz.ntmps30
 go_upto_region 2 with(fail)
 refine QaB fun w1 hw1=>?_
 have B1:Below w.heap.size w w1:=by rw[hw1];exact(Qab w _).alloc (by simp) _
 have hR1:w1.heap[w.heap.size]? =some (.cells pZero 62 (0,0)):=by rw[hw1];exact Qaf (heap_alloc_new w _) _
 have hT1:w1.heap[w.heap.size+1]? =some (.cells pol0 102 (0,0)):=by rw[hw1];exact Qah (by simp) _
 have hz1:w.heap.size+2=w1.heap.size:=by rw[hw1];simp
 clear hw1;have HE1:Hid (∃a,w1.cell? ⟨0,0,none⟩=some (.iface 346 (.pointer (some a)))):=Hi (by
  obtain⟨a,ha⟩:=hE;exact⟨a,(Ext.below (S:=fun _=>False) B1).cell (fun h=>h) ha⟩)
 have HG1:=Hi (hG.ext (S:=fun _=>False) (.below B1) (fun d h=>h.elim) h15);clear hG hE;have KEY:Hid (∀cp fr,s.size≤cp→cp≤maxLen→Calls Tryz.prog 47 #[.pointer (some ⟨w.heap.size+1,0,none⟩),.slice (some ⟨w1.heap.size,0,none⟩) s.size cp] (w1.drew.alloc (.cells (bytesRow s cp) 5 fr)) (fun e w'=>Ext (·=w.heap.size+1) w1 w'∧match QcD lx s.data.toList with
  | none=>∃T v,e=.returned (.iface T v)
  | some (P,_)=>e=.returned .nilIface∧∃base B,QhO w' base B (w.heap.size+1) 102 P)):=Hi (by
  intro cp fr h1 h2;have X:Ext (fun _=>False) w1 (w1.drew.alloc (.cells (bytesRow s cp) 5 fr)):=((Ext.refl _ _).drew).alloc _;have hbs:(bytesRow s cp).size=cp:=by
   have:s.data.size=s.size:=rfl;simp[bytesRow];omega
  obtain⟨a,ha⟩:=HE1.out;refine(unm_c (n:=s.size) lexC (fun s=>rfl) (X.heap id hT1) (by omega) (by decide) (heap_alloc_new w1.drew _) (by rw[hbs];omega) (QhZ s cp) (show s.data.toList.length=s.size from rfl) (by omega) h1 h2 (HG1.out.ext X (fun d h=>h.elim) (by omega)) ⟨a,X.cell id ha⟩).mono ?_;rintro e w'⟨hX,h3⟩;refine⟨(X.mono (fun _ h=>h.elim)).trans hX,?_⟩;cases hp:QcD lx s.data.toList with
  | none=>rw[hp]at h3;exact h3
  | some p =>
   rw[hp]at h3;obtain⟨h4,base,B,_,_,h5⟩:=h3;exact⟨h4,base,B,h5⟩)
 clear HG1 HE1 hT1;have hcg:=grownCap_ge w1 s.size 0 5;have hcm:=grownCap_le_maxLen w1 s.size 0 5 (by unfold maxLen;omega)
 go_wp2_with fail
 refine(KEY.out _ _ hcg hcm).mono ?_;clear KEY hcg hcm;rintro e w2⟨X2,h2⟩;have B2:Below w.heap.size w w2:=((Ext.below (S:=fun _=>False) B1).trans' X2 (fun d hd=>.inr (by omega))).toBelow (fun _ h=>h.elim) (Nat.le_refl _);have hR2:=X2.heap (show ¬w.heap.size=w.heap.size+1 by omega) hR1;have hz2:=X2.size;clear B1 hR1 X2;cases hp:QcD lx s.data.toList with
 | none =>
  rw[hp]at h2;obtain⟨T,v,rfl⟩:=h2;have HP:=Hi hp;clear hp;have HB:=Hi B2;clear B2;obtain⟨w9,hw9,h9,hE⟩:=st62 w2 w.heap.size 62 false none 0 0 none 0 0 0 ⟨#[]⟩ ⟨#[]⟩ none 0 0 ⟨#[]⟩ 0 ⟨#[]⟩ ⟨#[]⟩ none 0 0 ⟨#[]⟩ 0 ⟨#[]⟩ ⟨#[]⟩ none 0 0 ⟨#[]⟩ hR2;have HW:=Hi hw9;clear hw9
  go_wp2_with(refine QdA rfl 62 (.tmp 2) (.tmp 11) rfl _ rfl _ rfl _ HW.out ?_)
  refine Qfo _ 2 3 (by kernel_rfl) rfl rfl rfl h9 ?_;show ParP w _ _ _;rw[HP.out];exact⟨((Ext.below (S:=fun _=>False) HB.out).trans' hE (fun d hd=>.inr (by omega))).toBelow (fun _ h=>h.elim) (Nat.le_refl _),rfl⟩
 | some p =>
  obtain⟨P,us⟩:=p;rw[hp]at h2;obtain⟨rfl,base,B,h3⟩:=h2;have hok:=HPO.out _ _ hp;clear HPO;have HP:=Hi hp;clear hp;have HB:=Hi B2;clear B2;have HR:=Hi hR2;clear hR2
  go_wp2_with fail
  refine(policy38 hok w2 base B _ 102 h3).mono ?_;rintro e w3⟨B3,cs,hcs,rfl⟩;have hHB:=HB.out.size;have hcs':=Hi hcs;obtain⟨pn,cn,s1,s2,s3,pc,cc,cells,rfl,-,⟨p1,d1,rfl,-⟩,⟨p2,d2,rfl,-⟩,⟨p3,d3,rfl,-⟩,-⟩:=hcs;have hR3:=(B3.block _ (Qad HR.out)).trans HR.out;have HB3:=Hi B3;clear B3;obtain⟨w9,hw9,h9,hE⟩:=st62 w3 w.heap.size 62 (Qb1 P).forbid pn (Qb1 P).notes.length cn pc (Qb1 P).conds.length cc (Qb1 P).pr.kind (Qb1 P).pr.u.1 (Qb1 P).pr.u.2 p1 (Qb1 P).pr.l.length d1 (Qb1 P).pr.ty (Qb1 P).ac.kind (Qb1 P).ac.u.1 (Qb1 P).ac.u.2 p2 (Qb1 P).ac.l.length d2 (Qb1 P).ac.ty (Qb1 P).re.kind (Qb1 P).re.u.1 (Qb1 P).re.u.2 p3 (Qb1 P).re.l.length d3 (Qb1 P).re.ty hR3
  have HW:=Hi hw9;clear hw9
  go_wp2_with(refine QdA rfl 62 (.tmp 2) (.tmp 13) rfl _ rfl _ rfl _ HW.out ?_)
  refine Qfo _ 2 3 (by kernel_rfl) rfl rfl rfl h9 ?_;show ParP w _ _ _;rw[HP.out];refine⟨((Ext.below (S:=fun _=>False) (HB.out.trans (HB3.out.mono hHB))).trans' hE (fun d hd=>.inr (by omega))).toBelow (fun _ h=>h.elim) (Nat.le_refl _),_,?_,rfl⟩;exact(hcs'.out.extT hE (fun d c T fr q hne e=>by subst e;exact QcJ q hR3 hne)).mono (fun d hd=>by omega)
theorem PpIs.lit{w:World}{U:Nat→Prop}{cs:List Value}{P:PPol}(h:PpIs w U cs P):∃f pn nn cn k1 t1 i1 p1 n1 c1 y1 k2 t2 i2 p2 n2 c2 y2 k3 t3 i3 p3 n3 c3 y3 pc cc,cs.toArray=pCell f (.slice pn nn cn) k1 t1 i1 (.slice p1 n1 c1) y1 k2 t2 i2 (.slice p2 n2 c2) y2 k3 t3 i3 (.slice p3 n3 c3) y3 (.slice pc P.conds.length cc)∧∃cells,RwU w U 80 12 pc P.conds.length cells∧CnIs w U cells P.conds:=by
 obtain⟨pn,cn,s1,s2,s3,pc,cc,cells,rfl,-,⟨p1,d1,rfl,-⟩,⟨p2,d2,rfl,-⟩,⟨p3,d3,rfl,-⟩,h6,h7⟩:=h;exact⟨_,_,_,_,_,_,_,_,_,_,_,_,_,_,_,_,_,_,_,_,_,_,_,_,_,_,_,rfl,_,h6,h7⟩
def QdB(s:ByteArray):ByteArray:=(⟨#[112,101,114,109,105,116,32,40,112,114,105,110,99,105,112,97,108,44,32,97,99,116,105,111,110,44,32,114,101,115,111,117,114,99,101,41,32,119,104,101,110,32,123]⟩:ByteArray)++s++(⟨#[125,59]⟩:ByteArray)
theorem WG.below{w w':World}(h:WG w)(hb:Below w.heap.size w w'):WG w':=by
 obtain⟨h1,⟨a,h2⟩,h3⟩:=h;exact⟨h1.ext (S:=fun _=>False) (.below hb) (fun d h=>h.elim) h3,⟨a,(Ext.below (S:=fun _=>False) hb).cell (fun h=>h) h2⟩,Nat.le_trans h3 hb.size⟩
theorem in_c(s:ByteArray)(hs:s.size≤700000)(x:PEx)(hx:∃P us b,QcD lx (QdB s).data.toList=some (P,us)∧(Qb1 P).conds=[(b,x)])(w:World)(hG:WG w):Calls Tryz.prog 11 #[.string s] w (PxP w x):=by
 have hsz:(QdB s).size=s.size+45:=by
  unfold QdB;rw[ByteArray.size_append,ByteArray.size_append];show 43+s.size+2=_;omega
 go_enter Tryz.func11,Tryz.ntmps11
 go_wp2_with fail
 have B1:=Qab w (.cells xZero 33);have HR:=Hi (heap_alloc_new w (.cells xZero 33));refine(par_c (QdB s) (by omega) _ (hG.below B1)).mono ?_;rintro e w2⟨B2,h2⟩;obtain⟨P,us,b,hP,hc⟩:=hx;rw[hP]at h2;obtain⟨cs,hcs,rfl⟩:=h2;have hR2:=(B2.block _ (Qad HR.out)).trans HR.out;have hB2:=B1.trans (B2.mono B1.size);have hz2:=hB2.size;obtain⟨f,pn,nn,cn,k1,t1,i1,p1,n1,c1,y1,k2,t2,i2,p2,n2,c2,y2,k3,t3,i3,p3,n3,c3,y3,pc,cc,hlit,cells,hrow,hcn⟩:=hcs.lit
 rw[hc]at hlit hrow hcn;rw[hlit];simp only[List.length_cons,List.length_nil,Nat.zero_add]at hrow ⊢;obtain⟨hl,hr⟩:=hrow;obtain⟨rb,ro,rc,rfr,rfl,hU,hrb,hcc⟩:=hr.resolve_left (by omega);obtain⟨hcl,hce⟩:=hcn;obtain⟨hc0,hpx⟩:=hce 0 _ rfl;have HB:=Hi hB2;clear hB2 B1 B2 HR hP hc hcs hlit
 go_upto_region 2 with(fail)
 refine QaB fun w3 hw3=>?_
 have hb3:w3.heap[w2.heap.size]? =some (.cells (pCell f (.slice pn nn cn) k1 t1 i1 (.slice p1 n1 c1) y1 k2 t2 i2 (.slice p2 n2 c2) y2 k3 t3 i3 (.slice p3 n3 c3) y3 (.slice (some ⟨rb,ro,none⟩) 1 cc)) 62 (0,0)):=by rw[hw3];exact heap_alloc_new _ _
 have B3:Below w2.heap.size w2 w3:=by rw[hw3];exact Qab _ _
 clear hw3;have k17:w3.cell? ⟨w2.heap.size,17,none⟩=some (.slice (some ⟨rb,ro,none⟩) 1 cc):=Qaa hb3 rfl;have hR3:=Bk B3 hR2;have hrb3:=Bk B3 hrb;have hpx3:=hpx.after B3;have HB3:=Hi (HB.out.trans (B3.mono HB.out.size));have HRN:=Hi (show rb≠w.heap.size from fun e=>by subst e;exact QcJ hrb hR2 (by decide));clear hb3 hpx hR2 hrb hr B3 HB;obtain⟨ds,hds⟩:∃ds,(cells.drop (0*12+1)).take 11=ds:=⟨_,rfl⟩
 rw[hds]at hpx3;have HPX:=Hi hpx3;cases hpx3 with
 | mk op' s' v' keys' pieces' l' pk pp pl ck cp cl cs' hk hp hl' hch =>
 clear hk hp hl' hch;obtain⟨kd,nn',vs',vt⟩:=v';simp only at HPX hds;have hq:∀j,j<11→∀v,([.int .i64 op',.string s',.int .i64 kd,.int .i64 nn',.string vs',.string vt,.slice none 0 0,.slice none 0 0,.slice pk keys'.length ck,.slice pp pieces'.length cp,.slice pl l'.length cl]:List Value)[j]? =some v→w3.cell? ⟨rb,ro+1+j,none⟩=some v:=by
  intro j hj v hv;refine Qaa hrb3 ?_;rw[show ro+1+j=ro+(j+1)by omega,hcc (j+1) (by omega),←hv,←hds,List.getElem?_take_of_lt hj,List.getElem?_drop]
  congr 1;omega
 have q0:w3.cell? ⟨rb,ro+1,none⟩=some (.int .i64 op'):=hq 0 (by decide) _ rfl;have q1:w3.cell? ⟨rb,ro+1+1,none⟩=some (.string s'):=hq 1 (by decide) _ rfl;have q2:w3.cell? ⟨rb,ro+1+2,none⟩=some (.int .i64 kd):=hq 2 (by decide) _ rfl;have q3:w3.cell? ⟨rb,ro+1+3,none⟩=some (.int .i64 nn'):=hq 3 (by decide) _ rfl;have q4:w3.cell? ⟨rb,ro+1+4,none⟩=some (.string vs'):=hq 4 (by decide) _ rfl;have q5:w3.cell? ⟨rb,ro+1+5,none⟩=some (.string vt):=hq 5 (by decide) _ rfl
 have q6:w3.cell? ⟨rb,ro+1+6,none⟩=some (.slice none 0 0):=hq 6 (by decide) _ rfl;have q7:w3.cell? ⟨rb,ro+1+7,none⟩=some (.slice none 0 0):=hq 7 (by decide) _ rfl;have q8:w3.cell? ⟨rb,ro+1+8,none⟩=some (.slice pk keys'.length ck):=hq 8 (by decide) _ rfl;have q9:w3.cell? ⟨rb,ro+1+9,none⟩=some (.slice pp pieces'.length cp):=hq 9 (by decide) _ rfl;have q10:w3.cell? ⟨rb,ro+1+10,none⟩=some (.slice pl l'.length cl):=hq 10 (by decide) _ rfl
 clear hq hds hcc hrb3 hce hc0;obtain⟨e0,e1,e2,e3,e4,e5,e6,e7,e8,e9,e10,f0,f1,f2,f3,f4,f5,f6,f7,f8,f9,f10⟩:=Qa6 hR3
 go_wp2_with fail
 obtain⟨w9,hw9,h9,hE⟩:=Qch hR3 rfl (.int .i64 op') (.string s') (.int .i64 kd) (.int .i64 nn') (.string vs') (.string vt) (.slice none 0 0) (.slice none 0 0) (.slice pk keys'.length ck) (.slice pp pieces'.length cp) (.slice pl l'.length cl);rw[hw9];clear hw9;refine Qbp _ 2 3 (by kernel_rfl) rfl rfl rfl h9 rfl ?_;refine⟨((Ext.below (S:=fun _=>False) HB3.out).trans' hE (fun d hd=>.inr (by omega))).toBelow (fun _ h=>h.elim) (Nat.le_refl _),_,?_,rfl⟩
 exact HPX.out.ext hE (fun d hd _=>by simp at hd;omega)
def dg(n:Nat)(s:List UInt8):List UInt8:=if h:n=0 then s else dg (n / 10) (UInt8.ofNat (48+n%10)::s)
termination_by n
decreasing_by omega
def dig(n:Nat):List UInt8:=if n=0 then [48]else dg n []
theorem QdC{n:Nat}(s:List UInt8)(h:n≠0):dg n s=dg (n / 10) (UInt8.ofNat (48+n%10)::s):=by
 rw[dg];simp[h]
theorem Qcv(s:List UInt8):dg 0 s=s:=by rw[dg];simp
def DgRl(w0:World)(n0:Nat)(v0 v5:Value)(wr:World):Prop:=∃(n:Nat)(s:List UInt8),v0=.int .u64 (n:Int)∧v5=.string ⟨s.toArray⟩∧n≤n0∧(s=[]∧n=n0∨s≠[]∧dg n s=dig n0)∧s.length+n≤n0+1∧Below w0.heap.size w0 wr
theorem QdU(d:UInt8)(s:List UInt8):((⟨#[d]⟩:ByteArray)++⟨s.toArray⟩)=⟨(d::s).toArray⟩:=by
 apply ByteArray.ext;simp
theorem conv1(w:World)(n:Nat):(convert 78 9 (.slice (some ⟨w.heap.size,0,none⟩) 1 1)).run Tryz.prog (w.alloc (.cells #[.int .u8 (48+(n:Int)%10)] 5))=.ok (.string ⟨#[UInt8.ofNat (48+n%10)]⟩) (w.alloc (.cells #[.int .u8 (48+(n:Int)%10)] 5)):=by
 refine run_convert_bytes_back (P:=Tryz.prog) _ 78 9 5 ⟨w.heap.size,0,none⟩ 1 [UInt8.ofNat (48+n%10)] Tryz.underlying78 Tryz.underlying5 Tryz.underlying9 (fun j hj=>?_);have h0:j=0:=by simpa using hj
 subst h0;refine(Qaa (o:=0) (heap_alloc_new w _) rfl).trans ?_;have h1:(UInt8.ofNat (48+n%10)).toNat=48+n%10:=by
  rw[UInt8.toNat_ofNat'];omega
 have h2:((48+n%10:Nat):Int)=48+(n:Int)%10:=by omega
 show some (Value.int .u8 (48+(n:Int)%10))=some (Value.int .u8 (((UInt8.ofNat (48+n%10)).toNat:Nat):Int));rw[h1,h2]
theorem Qcy(n0:Nat)(hn:n0<4294967296)(w:World):Calls Tryz.prog 10 #[.int .u64 (n0:Int),.int .i64 1] w (fun e w'=>e=.returned (.string ⟨(dig n0).toArray⟩)∧Below w.heap.size w w'):=by
 go_enter Tryz.func10,Tryz.ntmps10
 go_upto_region 2 with(fail)
 have HQ:Hid (DgRl w n0 (.int .u64 (n0:Int)) (.string ⟨#[]⟩) w):=Hi ⟨n0,[],rfl,rfl,Nat.le_refl _,.inl ⟨rfl,rfl⟩,by simp,.refl _ _⟩
 go_loopw [0,5] (fun v0 v5 wr=>DgRl w n0 v0 v5 wr) (fun v0 v5 _=>(intOf v0).toNat+(match v5 with | .string s=>1-s.size | _=>0))
 case atStart=>exact HQ.out
 case round =>
  clear HQ;obtain⟨n,s,rfl,rfl,hle,hs,hlen,hB⟩:=hrel;by_cases hn0:n=0
  ·subst hn0
   by_cases hse:s=[]
   ·subst hse
    have h0:n0=0:=by rcases hs with⟨_,h⟩ | ⟨h,_⟩;exact h.symm;exact absurd rfl h
    have hcv:(convert 78 9 (.slice (some ⟨wr.heap.size,0,none⟩) 1 1)).run Tryz.prog (wr.alloc (.cells #[.int .u8 48] 5))=.ok (.string ⟨#[48]⟩) (wr.alloc (.cells #[.int .u8 48] 5)):=conv1 wr 0
    go_wp2_with fail
    go_roundw
    case rel =>
     refine⟨0,[48],rfl,?_,by omega,.inr ⟨by simp,?_⟩,by simp,hB.alloc hB.size _⟩
     ·exact congrArg Value.string (QdU 48 [])
     ·rw[Qcv,h0];rfl
    case measure=>decide
   ·have HD:=Hi (show s=dig n0 by rcases hs with⟨h,_⟩ | ⟨_,h⟩;exact absurd h hse;rw[Qcv]at h;exact h)
    have hsz:1≤s.length:=List.length_pos_iff.2 hse;have hszn:¬((s.length:Int)<1):=by omega
    clear hs hse
    go_wp2_with fail
    go_ret;exact⟨by rw[HD.out];rfl,hB⟩
  ·have hpos:(0:Int)<(n:Int):=by omega
   have HS:=Hi hs;clear hs;have hcv:=conv1 wr n;have hb:s.length≤5000000000:=by omega
   go_wp2_with fail
   go_roundw
   case rel =>
    refine⟨n / 10,UInt8.ofNat (48+n%10)::s,?_,?_,by omega,.inr ⟨by simp,?_⟩,?_,hB.alloc hB.size _⟩
    ·rfl
    ·rw[show(48:UInt8)+UInt8.ofNat (n%10)=UInt8.ofNat (48+n%10)by rw[UInt8.ofNat_add];rfl];exact congrArg Value.string (QdU _ s)
    ·rw[←QdC s hn0]
     rcases HS.out with⟨rfl,rfl⟩ | ⟨_,h⟩
     ·rw[dig,if_neg hn0]
     ·exact h
    ·rw[List.length_cons];omega
   case measure =>
    simp[intOf];omega
end Go.Proofs.Pg
