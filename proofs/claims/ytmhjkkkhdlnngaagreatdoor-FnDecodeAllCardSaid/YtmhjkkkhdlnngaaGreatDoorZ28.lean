/- FnDecodeAll, part 28. -/
import Derived.Test.YtmhjkkkhdlnngaaGreatDoorZ27
set_option linter.all false
set_option maxRecDepth 100000
set_option maxHeartbeats 0
namespace Go.Proofs.Pg
open Go.RowKit Go.Proofs.Tryz
attribute [local go_sem] Oper.semAt_some
def PieR(rb lo:Nat)(w:World)(l:List UInt8):Prop :=
 ∃(s:ByteArray)(p:Option Addr)(m cp:Nat),w.heap[rb]? =some (.cells #[.string s,.slice p m cp] 89 (0,0))∧s.data.toList=l∧(l.length≤1000000∧m≤1000000∧m≤cp∧cp≤maxLen)∧(m=0∨∃d o c T fr,p=some ⟨d,o,none⟩∧d≠rb∧d<lo∧w.heap[d]? =some (.cells c T fr)∧∀j,j<m→∃x:Int,c[o+j]? =some (.int .i64 x))
theorem PieR.ext{rb lo:Nat}{w w':World}{l:List UInt8}{S:Nat→Prop}(h:PieR rb lo w l)(he:Ext S w w')(h1:¬S rb)(h2:∀d,d<lo→d≠rb→¬S d):PieR rb lo w' l:=by
 obtain⟨s,p,m,cp,hb,hs,hm,hc⟩:=h;refine⟨s,p,m,cp,he.heap h1 hb,hs,hm,hc.imp id ?_⟩;rintro⟨d,o,c,T,fr,a1,a2,a3,a4,a5⟩;exact⟨d,o,c,T,fr,a1,a2,a3,he.heap (h2 d a3 a2) a4,a5⟩
theorem QiM{rb lo:Nat}{w:World}(h:PieR rb lo w [])(b off n:Nat)(cap:Nat)(q:Value)(hn:n≠0)(h0:rb≠0)(hq:w.cell? ⟨0,0,none⟩=some q) :
  Calls prog 337 #[.pointer (some ⟨rb,0,none⟩),.slice (some ⟨b,off,none⟩) n cap] w fun e w'=>e=.returned (.tuple #[.int .i64 0,q])∧Ext (fun d=>d=rb) w w'∧PieR rb lo w' []:=by
 have HH:=Hi h;obtain⟨s,p,m,cp,hb,hs,_,_⟩:=h;have e0:s=⟨#[]⟩:=by
  cases s with | mk d=>simp at hs;subst hs;rfl
 subst e0;have c0:w.cell? ⟨rb,0,none⟩=some (.string ⟨#[]⟩):=Qaa hb rfl;clear hb hs;go_enter func337,ntmps337
 go_wp2_with fail
 go_quiet (fail)
 go_wp2_with fail
 go_ret2
 have E4:=(Ext.refl (fun d=>d=rb) w).drewN nq;exact⟨rfl,E4,HH.out.ext (S:=fun _=>False) ((Ext.refl (fun _=>False) w).drewN nq) (fun h=>h) (fun _ _ _ h=>h)⟩
open Go.Lib in
theorem Qi0{P:Program}(w:World)(dT sT ty elem:TypeId)(g o dLen dCap k:Nat)(s:ByteArray)(cur:Array Value)(t:TypeId)
  (hu:P.underlying dT=some (.slice elem))(hs:(P.info? elem).map (·.size)=some 1)(hg:w.heap[g]? =some (.cells cur t (0,0)))(hk:Nat.min s.size dLen=k)(hfit:o+k≤cur.size) :
  (Builtin.copy_ #[dT,sT] ty #[.slice (some ⟨g,o,none⟩) dLen dCap,.string s]).run P w=.ok (goInt k) (w.setRow g (spl cur o (s.data.toList.take k))):=by
 have hks:k≤s.data.toList.length:=(hk▸Nat.min_le_left s.size dLen:k≤s.size);have hlen:(byteCells (s.data.toList.take k)).length=k:=by rw[byteCells_length,List.length_take];omega
 have hst:=run_storeCells_at P g o t (byteCells (s.data.toList.take k)) 0 cur w hg (by rw[hlen];simpa using hfit) (byteCells_one _);have htk:List.take k (List.map (fun b:UInt8=>Value.int IntKind.u8 (b.toNat:Int)) s.data.toList)=byteCells (s.data.toList.take k):=by
  unfold byteCells;rw[List.map_take]
 rw[hlen]at hst;simp only[Nat.add_zero]at hst;unfold spl;rw[show(s.data.toList.take k).length=k by rw[List.length_take];omega];cases hq:P.info? elem with
 | none=>simp[hq]at hs
 | some i =>
  simp[Builtin.copy_,run_underlying hu,Builtin.lenOf,Builtin.firstCells,sizeOf,typeInfo,hq,hk];rw[htk,hst];simp[Result.andThen]
theorem QiH{rb lo:Nat}{w:World}{l:List UInt8}(h:PieR rb lo w l)(hl:l≠[])(b off n cap:Nat)(cur:Array Value)(T:TypeId)(hn:n≠0)(hn2:n≤2000)(hnc:n≤cap)(hcm:cap≤maxLen)(hT:T≠348)(hrb:rb<lo)(hlb:lo≤b)(hb:w.heap[b]? =some (.cells cur T (0,0)))(hoff:off+n≤cur.size) :
  Calls prog 337 #[.pointer (some ⟨rb,0,none⟩),.slice (some ⟨b,off,none⟩) n cap] w (Got ⟨87,337,rb,PieR rb lo⟩ w l b off n cur T):=by
 obtain⟨s,p,m,cp,hr,hs,hm,hc⟩:=h;have hsl:s.size=l.length:=by rw[←hs];rfl
 have hl0:0<l.length:=List.length_pos_iff.2 hl;have c0:w.cell? ⟨rb,0,none⟩=some (.string s):=Qaa hr rfl;have c1:w.cell? ⟨rb,1,none⟩=some (.slice p m cp):=Qaa hr rfl;have f1:=Qae hr 1;have hne:s.toList.isEmpty=false:=by
  rw[ByteArray.toList_eq,hs];cases l with
  | nil=>exact absurd rfl hl
  | cons a l=>rfl
 have hlt:=Qad hr;have HB:=Hi hr;clear hr;have HBB:=Hi hb;clear hb;have HC:=Hi hc;clear hc;have HS:=Hi hs;clear hs;go_enter func337,ntmps337;by_cases hm0:m=0
 case' pos =>
  subst hm0
  go_upto_region 7 with(fail)
  obtain⟨N,hN1,hNe⟩:∃N:Int,1≤N∧(l.length:Int)=N:=⟨_,by omega,rfl⟩
  rw[hNe];refine Qba fun w1 hw1=>?_
  have HE1:Hid (Ext (fun x=>x=rb) w w1):=Hi (hw1▸Ext.refl _ _);have HR1:Hid (∃p m cp,w1.heap[rb]? =some (.cells #[.string s,.slice p m cp] 89 (0,0))∧(l.length≤1000000∧m≤1000000∧m≤cp∧cp≤maxLen)∧(m=0∨∃d o c T fr,p=some ⟨d,o,none⟩∧d≠rb∧d<lo∧w1.heap[d]? =some (.cells c T fr)∧∀j,j<m→∃x:Int,c[o+j]? =some (.int .i64 x))):=Hi ⟨p,0,cp,hw1▸HB.out,hm,.inl rfl⟩;clear hw1 hNe;clear hsl;have HGO:Hid True:=Hi trivial
  skip
 case' neg =>
  obtain⟨d,o,c,T',fr,rfl,hd,hdl,hcc,hx⟩:=HC.out.resolve_left hm0;obtain⟨x,hx0⟩:=hx 0 (by omega);have q0:w.cell? ⟨d,o,none⟩=some (.int .i64 x):=Qaa hcc (by simpa using hx0);have g1:0<m:=by omega
  have HX:=Hi hx;have HCC:=Hi hcc;clear hx hcc hx0
  go_upto_region 7 with(fail)
  obtain⟨N,hN1,hNe⟩:∃N:Int,1≤N∧max 1 x=N:=⟨_,Int.le_max_left _ _,rfl⟩
  rw[hNe];refine Qba fun w1 hw1=>?_
  have HE1:Hid (Ext (fun x=>x=rb) w w1):=Hi (hw1▸(Ext.refl (fun x=>x=rb) w).setb 1 _);have HR1:Hid (∃p m cp,w1.heap[rb]? =some (.cells #[.string s,.slice p m cp] 89 (0,0))∧(l.length≤1000000∧m≤1000000∧m≤cp∧cp≤maxLen)∧(m=0∨∃d o c T fr,p=some ⟨d,o,none⟩∧d≠rb∧d<lo∧w1.heap[d]? =some (.cells c T fr)∧∀j,j<m→∃x:Int,c[o+j]? =some (.int .i64 x))):=by
   refine Hi ⟨_,m-1,cp-1,hw1▸Qac (o:=1) HB.out _,⟨hm.1,by omega,by omega,by omega⟩,?_⟩;by_cases h1:cp=1
   ·left;omega
   ·right
    refine⟨d,o+1,c,T',fr,by rw[if_neg h1],hd,hdl,HE1.out.heap hd HCC.out,fun j hj=>?_⟩;rw[Nat.add_assoc,Nat.add_comm 1 j];exact HX.out (j+1) (by omega)
  clear hw1 hNe HX HCC;clear hsl;have HGO:Hid True:=Hi trivial
  skip
 all_goals
  clear HGO;obtain⟨j,hj,hj1,hjn⟩:∃j:Nat,min N (n:Int)=(j:Int)∧1≤j∧j≤n:=⟨(min N (n:Int)).toNat,by omega,by omega,by omega⟩
  obtain⟨k,hk⟩:∃k,Nat.min s.size j=k:=⟨_,rfl⟩
  have hss:s.size=l.length:=by rw[←HS.out];rfl
  have hk1:k≤l.length:=hss▸hk▸Nat.min_le_left _ _;have hk2:k≤n:=Xe (hk▸Nat.min_le_right _ _) hjn;have hk3:1≤k:=by rw[←hk];exact Nat.le_min.2 ⟨by omega,hj1⟩
  have hbb:w1.heap[b]? =some (.cells cur T (0,0)):=HE1.out.heap (show ¬b=rb by omega) HBB.out;have hcp2:=Qi0 (P:=prog) w1.drew 78 9 3 5 b off j cap k s cur T Qhd Qhc hbb hk (by omega);obtain⟨p1,m1,cp1,hr1,hm1,hc1⟩:=HR1.out;have d0:w1.cell? ⟨rb,0,none⟩=some (.string s):=Qaa hr1 rfl;have HR2:=Hi (Xc hr1 (Xc hm1 hc1));have HB1:=Hi hbb;have g9:j≤cap:=by omega
  clear hr1 hm1 hc1 hbb hk c0 c1 f1 hne HB HBB;refine QaK 10 (by kernel_rfl) (by kernel_rfl) ?_;simp only[List.take_succ_cons,List.take_zero,List.drop_succ_cons,List.drop_zero]
  repeat still_step
  refine wpStill_nil ?_
  go_upto_region 8 with(fail)
  refine Qba fun w3 hw3=>?_
  have hb3:w3.heap[b]? =some (.cells (spl cur off (s.data.toList.take k)) T (0,0)):=hw3▸setRow_heap w1.drew b cur _ T (0,0) HB1.out;have E3:Ext (fun x=>x=b) w1 w3:=hw3▸(Ext.refl (fun x=>x=b) w1).drew.trans (QdM w1.drew _ HB1.out hT);clear hw3 hcp2 d0;have hr3:=E3.heap (show ¬rb=b by omega) HR2.out.1;have c0:w3.cell? ⟨rb,0,none⟩=some (.string s):=Qaa hr3 rfl;have f0:=Qae hr3 0;have hlt3:=Qad hr3;have g7:k≤s.size:=by omega
  have HR3:=Hi hr3;have HB3:=Hi hb3;have HE3:=Hi E3;clear hr3 hb3 E3
  go_wp2_with fail
  all_goals
   go_ret2
   have E4:Ext (fun d=>d=rb) w3 (w3.setCell ⟨rb,0,none⟩ (.string (s.extract k l.length))):=(Ext.refl (fun d=>d=rb) w3).setb 0 _;have hE:Ext (fun d=>d=rb∨d=b) w (w3.setCell ⟨rb,0,none⟩ (.string (s.extract k l.length))):=(HE1.out.mono fun x h=>.inl h).trans ((HE3.out.mono fun x h=>.inr h).trans (E4.mono fun x h=>.inl h));refine⟨k,hk3,hk2,hk1,rfl,E4.heap (show ¬b=rb by omega) (HS.out▸HB3.out),hE,s.extract k l.length,p1,m1,cp1,Qac (o:=0) HR3.out _,?_,⟨by rw[List.length_drop];omega,HR2.out.2.1.2⟩,HR2.out.2.2.imp id ?_⟩
   ·rw[←hss,←HS.out,ByteArray.data_extract,Array.toList_extract,List.extract_eq_take_drop]
    exact List.take_of_length_le (by rw[List.length_drop];exact Xb _)
   ·rintro⟨d,o,c,T,fr,a1,a2,a3,a4,a5⟩
    exact⟨d,o,c,T,fr,a1,a2,a3,E4.heap a2 (HE3.out.heap (show ¬d=b by omega) a4),a5⟩
def pieRdr(rb lo:Nat):Rdr:=⟨87,337,rb,PieR rb lo⟩
theorem pieLaw{rb lo:Nat}(hrb:rb<lo)(h15:15≤rb):RdLaw (pieRdr rb lo) lo where
 hrb:=hrb
 h15:=h15
 ahead:=fun w=>by
  show(nilAhead 580 87 (.pointer (some ⟨rb,0,none⟩)) "Read").run prog w=_
  kernel_rfl
 meth:=fun w=>by
  show(Go.method 580 87 (.pointer (some ⟨rb,0,none⟩)) "Read").run prog w=_
  kernel_rfl
 ent:=fun args w=>by
  show(callFunc 337 args).run prog w=_
  kernel_rfl
 keep:=fun w w' l h he=>h.ext he (Nat.not_le.2 hrb) (fun d hd _=>Nat.not_le.2 hd)
 atEnd:=fun w b off n cap q h hn hq=>QiM h b off n cap q hn (by omega) hq
 more:=fun w l b off n cap cur T h hl hn hn2 hnc hcm hT hb hc ho=>QiH h hl b off n cap cur T hn hn2 hnc hcm hT hrb hb hc ho
end Go.Proofs.Pg
