/- FnDecodeAll, part 37. -/
import Derived.Test.YtmhjkkkhdlnngaaGreatDoorZ29
import Derived.Test.YtmhjkkkhdlnngaaGreatDoorZ33
import Derived.Test.YtmhjkkkhdlnngaaGreatDoorZ36
set_option linter.all false
set_option maxRecDepth 100000
set_option maxHeartbeats 0
namespace Go.Proofs.Pg
open Go.RowKit Go.Proofs.Tryz
attribute [local go_sem] Oper.semAt_some
def ΦE3(A B:Nat)(op kd nn:Int)(vs vt:ByteArray)(pk qk:Option Addr)(nk ck dk:Nat)(pp qp:Option Addr)(np cp dp:Nat):Nat→Value→Prop
 | 0,v=>v=.pointer (some ⟨A,0,none⟩)
 | 1,v=>v=.int .i64 op
 | 2,v=>v=.bool (decide (op=1))
 | 3,v=>v=.bool (decide (op=1))
 | 4,v=>op=1→v=.pointer (some ⟨A,2,none⟩)
 | 5,v=>op=1→v=.agg #[.int .i64 kd,.int .i64 nn,.string vs,.string vt,.slice none 0 0,.slice none 0 0]
 | 6,v=>op=1→v=.pointer (some ⟨B,2,none⟩)
 | 7,v=>op=1→v=.agg #[.int .i64 kd,.int .i64 nn,.string vs,.string vt,.slice none 0 0,.slice none 0 0]
 | 8,v=>op=1→v=.bool true
 | 9,v=>op=1→v=.bool false
 | 10,v=>v=.bool false
 | 11,v=>v=.bool false
 | 12,v=>v=.pointer (some ⟨A,0,none⟩)
 | 13,v=>v=.int .i64 op
 | 14,v=>v=.bool (decide (op=30))
 | 15,v=>v=.bool (decide (op=30))
 | 16,v=>op=30→v=.pointer (some ⟨A,8,none⟩)
 | 17,v=>op=30→v=.slice pk nk ck
 | 18,v=>op=30→v=.pointer (some ⟨B,8,none⟩)
 | 19,v=>op=30→v=.slice qk nk dk
 | 20,v=>op=30→v=.bool true
 | 21,v=>op=30→v=.bool false
 | 22,v=>v=.bool false
 | 23,v=>v=.bool false
 | 24,v=>v=.bool false
 | 25,v=>v=.pointer (some ⟨A,0,none⟩)
 | 26,v=>v=.int .i64 op
 | 27,v=>v=.bool (decide (op=15))
 | 28,v=>v=.bool (decide (op=15))
 | 29,v=>op=15→v=.pointer (some ⟨A,9,none⟩)
 | 30,v=>op=15→v=.slice pp np cp
 | 32,v=>op=15→v=.pointer (some ⟨B,9,none⟩)
 | 33,v=>op=15→v=.slice qp np dp
 | 35,v=>op=15→v=.bool true
 | 36,v=>op=15→v=.bool false
 | 37,v=>v=.bool false
 | 38,v=>v=.bool false
 | _,_=>True
def ΦE4(A B:Nat)(op kd nn:Int)(vs vt:ByteArray)(pk qk:Option Addr)(nk ck dk:Nat)(pp qp:Option Addr)(ps:List ByteArray)(cp dp:Nat)(j:Nat)(v:Value)(w:World):Prop :=
 ΦE3 A B op kd nn vs vt pk qk nk ck dk pp qp ps.length cp dp j v∧((j=31∨j=34)→op=15→∃p c,v=.slice p (Qiv ps).length c∧StRow w p (Qiv ps))
theorem StRow.after{w w':World}{p:Option Addr}{ks:List ByteArray}(h:StRow w p ks)(hb:Below w.heap.size w w'):StRow w' p ks:=fun i s hi=>by
 obtain⟨b,o,e,hlt,hc⟩:=h i s hi;exact⟨b,o,e,Nat.lt_of_lt_of_le hlt hb.size,(Ext.below (S:=fun _=>False) hb).cell (fun h=>h) hc⟩
theorem Qik(w:World)(b:Nat):(Instr.fieldAt 33 (.pointer (some ⟨b,0,none⟩)) 0).run prog w=.ok (.pointer (some ⟨b,0,none⟩)) w:=by kernel_rfl
theorem fd33_2(w:World)(b:Nat):(Instr.fieldAt 33 (.pointer (some ⟨b,0,none⟩)) 2).run prog w=.ok (.pointer (some ⟨b,2,none⟩)) w:=by kernel_rfl
theorem fd33_3(w:World)(b:Nat):(Instr.fieldAt 33 (.pointer (some ⟨b,0,none⟩)) 3).run prog w=.ok (.pointer (some ⟨b,8,none⟩)) w:=by kernel_rfl
theorem fd33_4(w:World)(b:Nat):(Instr.fieldAt 33 (.pointer (some ⟨b,0,none⟩)) 4).run prog w=.ok (.pointer (some ⟨b,9,none⟩)) w:=by kernel_rfl
theorem gno{o:Oper}{y:Nat→Option Bool}{X Y:Prop}(h:o.guard=none)(hx:X):if Region.wanted o y=true then X else Y:=by
 rw[if_pos (by simp[Region.wanted,h])];exact hx
theorem gyes{o:Oper}{y:Nat→Option Bool}{X Y:Prop}{c b:Bool}(hw:Region.wanted o y=(c==b))(h:(c==b)=true)(hx:X):if Region.wanted o y=true then X else Y:=by
 rw[if_pos (hw.trans h)];exact hx
theorem gnot{o:Oper}{y:Nat→Option Bool}{X Y:Prop}{c b:Bool}(hw:Region.wanted o y=(c==b))(h:(c==b)=false)(hx:Y):if Region.wanted o y=true then X else Y:=by
 rw[if_neg (by rw[hw,h];simp)];exact hx
theorem ldi3(w:World)(b o:Nat)(n:Int)(h:w.cell? ⟨b,o,none⟩=some (.int .i64 n)):(Instr.loadAt 3 (.pointer (some ⟨b,o,none⟩))).run prog w=.ok (.int .i64 n) w:=by go_simp
theorem ld30(w:World)(b:Nat)(kd nn:Int)(vs vt:ByteArray)(h2:w.cell? ⟨b,2,none⟩=some (.int .i64 kd))(h3:w.cell? ⟨b,3,none⟩=some (.int .i64 nn))(h4:w.cell? ⟨b,4,none⟩=some (.string vs))(h5:w.cell? ⟨b,5,none⟩=some (.string vt))(h6:w.cell? ⟨b,6,none⟩=some (.slice none 0 0))(h7:w.cell? ⟨b,7,none⟩=some (.slice none 0 0)) :
  (Instr.loadAt 30 (.pointer (some ⟨b,2,none⟩))).run prog w=.ok (.agg #[.int .i64 kd,.int .i64 nn,.string vs,.string vt,.slice none 0 0,.slice none 0 0]) w:=by go_simp
theorem eq3(w:World)(X Y:Operand)(x y:Int):(do eqGuard .eql 3 X Y (.int .i64 x) (.int .i64 y);binOp .eql 3 (.int .i64 x) (.int .i64 y):Sem Value).run prog w=.ok (.bool (decide (x=y))) w:=by
 go_simp;rfl
theorem se_a(op:Int)(s:ByteArray)(v:PV)(keys pieces:List ByteArray)(l:List PEx)(hk:keys.length≤29000000)(hp:pieces.length≤29000000)(hl:l.length≤29000000)(hop:True)(ih:∀a∈l,SeOk a):SeOk (.mk op s v keys pieces l):=by
 intro w U V cs ds ha hb;have HOP:=Hi hop;clear hop;cases ha with
 | mk _ _ _ _ _ _ pk pp pl ck cp cl ca ak ap al ah =>
 cases hb with
 | mk _ _ _ _ _ _ qk qp ql dk dp dl cb bk bp bl bh =>
 obtain⟨kd,nn,vs,vt⟩:=v;go_enter func12,ntmps12
 go_upto_region 1 with(fail)
 refine QaB fun w1 hw1=>?_
 have B1:Below w.heap.size w w1:=by rw[hw1];exact(Qab w _).alloc (by simp) _
 have hA:w1.heap[w.heap.size]? =some (.cells #[.int .i64 op,.string s,.int .i64 kd,.int .i64 nn,.string vs,.string vt,.slice none 0 0,.slice none 0 0,.slice pk keys.length ck,.slice pp pieces.length cp,.slice pl l.length cl] 33 (0,0)):=by rw[hw1];exact Qaf (Xa w _) _
 have hB:w1.heap[w.heap.size+1]? =some (.cells #[.int .i64 op,.string s,.int .i64 kd,.int .i64 nn,.string vs,.string vt,.slice none 0 0,.slice none 0 0,.slice qk keys.length dk,.slice qp pieces.length dp,.slice ql l.length dl] 33 (0,0)):=by rw[hw1];exact Qah (by simp) _
 clear hw1;have HB1:=Hi B1;have HAB:=Hi (Xc hA hB);have HKA:=Hi (ak.ext (S:=fun _=>False) (.below B1) (fun d hd _=>⟨fun h=>h,hd⟩)).strings;have HKB:=Hi (bk.ext (S:=fun _=>False) (.below B1) (fun d hd _=>⟨fun h=>h,hd⟩)).strings;have HPA:=Hi (ap.ext (S:=fun _=>False) (.below B1) (fun d hd _=>⟨fun h=>h,hd⟩)).strings;have HPB:=Hi (bp.ext (S:=fun _=>False) (.below B1) (fun d hd _=>⟨fun h=>h,hd⟩)).strings
 have HLA:=Hi (Xc (al.ext (S:=fun _=>False) (.below B1) (fun d hd _=>⟨fun h=>h,hd⟩)) (fun i a hi=>(ah i a hi).after B1));have HLB:=Hi (Xc (bl.ext (S:=fun _=>False) (.below B1) (fun d hd _=>⟨fun h=>h,hd⟩)) (fun i a hi=>(bh i a hi).after B1));clear ak bk al bl ah bh ap bp B1;obtain⟨a0,a1⟩:=Cl2 hA rfl rfl;have a10:=Qaa (o:=10) hA rfl;obtain⟨b0,b1⟩:=Cl2 hB rfl rfl;have b10:=Qaa (o:=10) hB rfl;clear hA hB
 have HIH:=Hi ih;clear ih
 go_wp2_with fail
 refine(named_c op _).mono ?_;rintro e w2⟨B2,b,rfl,hbb⟩;have E2:=Ext.below (S:=fun _=>False) B2;have HA2:=Hi (E2.heap (fun h=>h) HAB.out.1);have HB2:=Hi (E2.heap (fun h=>h) HAB.out.2);have HK2:=Hi B2;replace a0:=Qaa (o:=0) HA2.out rfl;replace b0:=Qaa (o:=0) HB2.out rfl;replace a1:=Qaa (o:=1) HA2.out rfl;replace b1:=Qaa (o:=1) HB2.out rfl;clear E2 B2 a10 b10;have SV:=Hi (sv_c kd nn vs vt);have HD2:Hid (Below w1.heap.size w1 w2.drew):=Hi ⟨HK2.out.os,HK2.out.tape,HK2.out.output,HK2.out.size,HK2.out.block⟩
 have SS:Hid (∀w',Below w1.heap.size w1 w'→Calls prog 33 #[.slice pk keys.length ck,.slice qk keys.length dk] w' (fun e w''=>e=.returned (.bool true)∧Below w'.heap.size w' w'')):=Hi (fun w' hB=>ss_c keys (by omega) w' pk qk ck dk (fun i s h=>by
  obtain⟨b,o,e,hlt,hc⟩:=HKA.out i s h;exact⟨b,o,e,Nat.lt_of_lt_of_le hlt hB.size,(Ext.below (S:=fun _=>False) hB).cell (fun h=>h) hc⟩) (fun i s h=>by
  obtain⟨b,o,e,hlt,hc⟩:=HKB.out i s h;exact⟨b,o,e,Nat.lt_of_lt_of_le hlt hB.size,(Ext.below (S:=fun _=>False) hB).cell (fun h=>h) hc⟩))
 have h15:=HOP.out;have BRA:Hid (∀w',Below w1.heap.size w1 w'→Calls prog 34 #[.slice pp pieces.length cp] w' (BrP w' pieces)):=Hi (fun w' hB=>bare_c pieces hp w' pp cp (HPA.out.after hB));have BRB:Hid (∀w',Below w1.heap.size w1 w'→Calls prog 34 #[.slice qp pieces.length dp] w' (BrP w' pieces)):=Hi (fun w' hB=>bare_c pieces hp w' qp dp (HPB.out.after hB));have hz2:w1.heap.size≤w2.heap.size:=HK2.out.size
 have hE0:Below w1.heap.size w1 w2:=HK2.out;have hCA:∀w6,Below w2.heap.size w2 w6→w6.heap[w.heap.size]? =some (.cells #[.int .i64 op,.string s,.int .i64 kd,.int .i64 nn,.string vs,.string vt,.slice none 0 0,.slice none 0 0,.slice pk keys.length ck,.slice pp pieces.length cp,.slice pl l.length cl] 33 (0,0)):=fun w6 h=>(h.block _ (Qad HA2.out)).trans HA2.out
 have hCB:∀w6,Below w2.heap.size w2 w6→w6.heap[w.heap.size+1]? =some (.cells #[.int .i64 op,.string s,.int .i64 kd,.int .i64 nn,.string vs,.string vt,.slice none 0 0,.slice none 0 0,.slice qk keys.length dk,.slice qp pieces.length dp,.slice ql l.length dl] 33 (0,0)):=fun w6 h=>(h.block _ (Qad HB2.out)).trans HB2.out
 have HCC:=Hi (Xc hCA hCB);clear hCA hCB;have HZ:=Hi (Xc hz2 (Xc hE0 h15));clear hz2 hE0 h15 hbb;cases b
 all_goals
  go_upto_region 3 with(fail)
  obtain⟨hCA,hCB⟩:=HCC.out;obtain⟨hz2,hE0,h15⟩:=HZ.out;refine Qfs (by kernel_rfl) (by kernel_rfl) (fun x y=>Below x.heap.size x y) (ΦE4 w.heap.size (w.heap.size+1) op kd nn vs vt pk qk keys.length ck dk pp qp pieces cp dp) ⟨rfl,rfl,rfl,Xb _,fun _ _=>rfl⟩ (fun _=>.refl _ _) (fun _ _ _ h k=>h.trans (k.mono h.size)) (fun _ _ _ _ hE h=>⟨h.1,fun a b=>by obtain⟨p,c,e,hr⟩:=h.2 a b;exact⟨p,c,e,hr.after hE⟩⟩) ?hop ?hdone
  case hdone =>
   intro a6 w6 hF;have h70:a6.tmps.getD 70 undef=.bool false:=(hF.facts 38 _ rfl rfl).1;have hE6:=hF.ext;obtain⟨fs,hfr,_⟩:=hF.frame;clear hF hCA hCB;have h70f:fs 70=.bool false:=by
    subst hfr;rw[show Qbi _=[32,33,34,35,36,37,38,39,40,41,42,43,44,45,46,47,48,49,50,51,52,53,54,55,56,57,58,59,60,61,62,63,64,65,66,67,68,69,70]from rfl]at h70;simp (config:={decide:=true}) only[List.mapIdx_toArray,List.mapIdx_cons,List.mapIdx_nil,Nat.zero_add,Nat.reduceAdd,if_true,if_false]at h70;exact h70
   clear h70;subst hfr;rw[show Qbi _=[32,33,34,35,36,37,38,39,40,41,42,43,44,45,46,47,48,49,50,51,52,53,54,55,56,57,58,59,60,61,62,63,64,65,66,67,68,69,70]from rfl];simp (config:={decide:=true}) only[List.mapIdx_toArray,List.mapIdx_cons,List.mapIdx_nil,Nat.zero_add,Nat.reduceAdd,if_true,if_false,h70f];clear h70f;have BW:=HZ.out.2.1.trans (hE6.mono HZ.out.1);have E3:=Ext.below (S:=fun _=>False) BW;have HA3:=Hi (E3.heap (fun h=>h) HAB.out.1)
   have HB3:=Hi (E3.heap (fun h=>h) HAB.out.2);have HBW:=Hi BW;clear E3 BW hE6 a0 b0 a1 b1
   go_upto_region 6 with(fail)
   have HQ:Hid (SeRl w1 l.length w.heap.size (w.heap.size+1) pl ql cl dl (.int .i64 0) w6):=Hi ⟨0,rfl,Nat.zero_le _,HBW.out,Qaa (o:=10) HA3.out rfl,Qaa (o:=10) HB3.out rfl⟩
   go_loopw [5] (fun v5 wr=>SeRl w1 l.length w.heap.size (w.heap.size+1) pl ql cl dl v5 wr) (fun v5 _=>l.length-(intOf v5).toNat)
   case atStart=>exact HQ.out
   case round =>
    clear HQ HA3 HB3 HBW SV SS HD2 HKA HKB HPA HPB BRA BRB;obtain⟨i,rfl,hi,hB,q10,r10⟩:=hrel;by_cases hlt:i<l.length
    ·obtain⟨a,ha⟩:∃a,l[i]? =some a:=⟨l[i],by simp[hlt]⟩
     have hma:=List.mem_of_getElem? ha;have E:=Ext.below (S:=fun _=>False) hB;obtain⟨b1,o1,rfl,hb1,ds1,p1,c1⟩:=px_row HLA.out.1 HLA.out.2 ha;obtain⟨b2,o2,rfl,hb2,ds2,p2,c2⟩:=px_row HLB.out.1 HLB.out.2 ha;have p1':=p1.after hB;have p2':=p2.after hB;have c1':∀j v,ds1[j]? =some v→wr.cell? ⟨b1,o1+i*11+j,none⟩=some v:=fun j v h=>E.cell (fun h=>h) (c1 j v h)
     have c2':∀j v,ds2[j]? =some v→wr.cell? ⟨b2,o2+i*11+j,none⟩=some v:=fun j v h=>E.cell (fun h=>h) (c2 j v h)
     have HSE:=Hi (HIH.out a hma);have HBI:=Hi hB;have HP:=Hi (Xc p1' p2');clear c1 c2 p1 p2 E hB ha hma HIH;cases p1' with
     | mk xo xs xv xk xp xl ga gb gc gd ge gf gg _ _ _ _ =>
     cases p2' with
     | mk _ _ _ _ _ _ ha' hb' hc' hd' he' hf' hg' _ _ _ _ =>
     have u0:=c1' 0 _ rfl;have u1:=c1' 1 _ rfl;have u2:=c1' 2 _ rfl;have u3:=c1' 3 _ rfl;have u4:=c1' 4 _ rfl;have u5:=c1' 5 _ rfl;have u6:=c1' 6 _ rfl;have u7:=c1' 7 _ rfl;have u8:=c1' 8 _ rfl;have u9:=c1' 9 _ rfl;have u10:=c1' 10 _ rfl;have t0:=c2' 0 _ rfl;have t1:=c2' 1 _ rfl;have t2:=c2' 2 _ rfl;have t3:=c2' 3 _ rfl;have t4:=c2' 4 _ rfl;have t5:=c2' 5 _ rfl;have t6:=c2' 6 _ rfl;have t7:=c2' 7 _ rfl
     have t8:=c2' 8 _ rfl;have t9:=c2' 9 _ rfl;have t10:=c2' 10 _ rfl;clear c1' c2';rw[Nat.add_zero]at u0 t0
     go_upto_region 8 with(fail)
     refine QaK 10 (by kernel_rfl) (by kernel_rfl) ?_
     repeat still_step
     refine wpStill_nil ?_
     go_wp2_with fail
     refine(HSE.out wr.drew U V _ _ (HP.out.1.ext (S:=fun _=>False) (w':=wr.drew) (Ext.refl _ _).drew (fun d hd _=>⟨fun h=>h,hd⟩)) (HP.out.2.ext (S:=fun _=>False) (w':=wr.drew) (Ext.refl _ _).drew (fun d hd _=>⟨fun h=>h,hd⟩))).mono ?_;rintro e w5⟨rfl,B5⟩;have q10':=(Ext.below (S:=fun _=>False) B5).cell (fun h=>h) (show wr.drew.cell? _=_ from q10);have r10':=(Ext.below (S:=fun _=>False) B5).cell (fun h=>h) (show wr.drew.cell? _=_ from r10)
     have HB5:=Hi (HBI.out.trans ((show Below wr.heap.size wr w5 from⟨B5.os,B5.tape,B5.output,B5.size,B5.block⟩).mono HBI.out.size));clear B5 u0 u1 u2 u3 u4 u5 u6 u7 u8 u9 u10 t0 t1 t2 t3 t4 t5 t6 t7 t8 t9 t10 q10 r10
     go_wp2_with fail
     go_roundw
     case rel=>exact⟨i+1,by go_num,by omega,HB5.out,q10',r10'⟩
     case measure=>simp[intOf];omega
    ·obtain rfl:i=l.length:=by omega
     have HBI:=Hi hB;clear hB
     go_wp2_with fail
     go_ret;exact⟨rfl,HB1.out.trans (HBI.out.mono HB1.out.size)⟩
  case hop =>
   have hA0:Value.pointer (some ⟨w.heap.size,0,none⟩)=.pointer (some ⟨w.heap.size,0,none⟩):=rfl;have hB0:Value.pointer (some ⟨w.heap.size+1,0,none⟩)=.pointer (some ⟨w.heap.size+1,0,none⟩):=rfl;intro j o hi
   match j,hi with
   | 0,hi =>
    obtain rfl:=Xd hi;intro a w6 hE hoth hpre;refine gno rfl ?_;exact Qaw 33 (.tmp 2) 0 rfl _ ((hoth 2 (by decide)).trans hA0) _ (Qik w6 _) ⟨.refl _ _,_,rfl,⟨rfl,fun h=>absurd h (by decide)⟩⟩
   | 1,hi =>
    obtain rfl:=Xd hi;intro a w6 hE hoth hpre;have g0:=(hpre {on:=0,ground:=.data} (by simp) rfl _ rfl).1;refine gno rfl ?_;exact QaO 3 (.tmp 32) rfl _ (show a.tmps.getD 32 undef=.pointer (some ⟨w.heap.size,0,none⟩)from g0) _ (ldi3 w6 _ _ _ (Qaa (o:=0) (hCA w6 hE) rfl)) ⟨.refl _ _,_,rfl,⟨rfl,fun h=>absurd h (by decide)⟩⟩
   | 2,hi =>
    obtain rfl:=Xd hi;intro a w6 hE hoth hpre;have g1:=(hpre {on:=1,ground:=.data} (by simp) rfl _ rfl).1;refine gno rfl ?_;exact QcI .eql 3 3 (.tmp 33) (.const (.int .i64 1)) rfl _ _ (show a.tmps.getD 33 undef=.int .i64 op from g1) rfl _ (eq3 w6 _ _ op 1) ⟨.refl _ _,_,rfl,⟨rfl,fun h=>absurd h (by decide)⟩⟩
   | 3,hi =>
    obtain rfl:=Xd hi;intro a w6 hE hoth hpre;have g2:=(hpre {on:=2,ground:=.data} (by simp) rfl _ rfl).1;refine gno rfl ?_;exact Qb5 (.tmp 34) rfl _ (show a.tmps.getD 34 undef=.bool (decide (op=1))from g2) ⟨.refl _ _,_,rfl,⟨rfl,fun h=>absurd h (by decide)⟩⟩
   | 4,hi =>
    obtain rfl:=Xd hi;intro a w6 hE hoth hpre;have g3:=(hpre {on:=3,ground:=.guard} (by simp) rfl _ rfl).1;by_cases hc:op=1
    ·refine gyes (Qas (g:=3) (b:=true) (d:=35) rfl rfl rfl (show a.tmps.getD 35 undef=.bool (decide (op=1))from g3)) (by simp[hc]) ?_
     exact Qaw 33 (.tmp 2) 2 rfl _ ((hoth 2 (by decide)).trans hA0) _ (fd33_2 w6 _) ⟨.refl _ _,_,rfl,⟨fun _=>rfl,fun h=>absurd h (by decide)⟩⟩
    ·exact gnot (Qas (g:=3) (b:=true) (d:=35) rfl rfl rfl (show a.tmps.getD 35 undef=.bool (decide (op=1))from g3)) (by simp[hc]) ⟨fun h=>absurd h hc,fun h=>absurd h (by decide)⟩
   | 5,hi =>
    obtain rfl:=Xd hi;intro a w6 hE hoth hpre;have g4:=(hpre {on:=4,ground:=.data} (by simp) rfl _ rfl).1;have g3:=(hpre {on:=3,ground:=.guard} (by simp) rfl _ rfl).1;by_cases hc:op=1
    ·refine gyes (Qas (g:=3) (b:=true) (d:=35) rfl rfl rfl (show a.tmps.getD 35 undef=.bool (decide (op=1))from g3)) (by simp[hc]) ?_
     exact QaO 30 (.tmp 36) rfl _ (show a.tmps.getD 36 undef=.pointer (some ⟨w.heap.size,2,none⟩)from(g4 hc)) _ (ld30 w6 _ kd nn vs vt (Qaa (o:=2) (hCA w6 hE) rfl) (Qaa (o:=3) (hCA w6 hE) rfl) (Qaa (o:=4) (hCA w6 hE) rfl) (Qaa (o:=5) (hCA w6 hE) rfl) (Qaa (o:=6) (hCA w6 hE) rfl) (Qaa (o:=7) (hCA w6 hE) rfl)) ⟨.refl _ _,_,rfl,⟨fun _=>rfl,fun h=>absurd h (by decide)⟩⟩
    ·exact gnot (Qas (g:=3) (b:=true) (d:=35) rfl rfl rfl (show a.tmps.getD 35 undef=.bool (decide (op=1))from g3)) (by simp[hc]) ⟨fun h=>absurd h hc,fun h=>absurd h (by decide)⟩
   | 6,hi =>
    obtain rfl:=Xd hi;intro a w6 hE hoth hpre;have g3:=(hpre {on:=3,ground:=.guard} (by simp) rfl _ rfl).1;by_cases hc:op=1
    ·refine gyes (Qas (g:=3) (b:=true) (d:=35) rfl rfl rfl (show a.tmps.getD 35 undef=.bool (decide (op=1))from g3)) (by simp[hc]) ?_
     exact Qaw 33 (.tmp 3) 2 rfl _ ((hoth 3 (by decide)).trans hB0) _ (fd33_2 w6 _) ⟨.refl _ _,_,rfl,⟨fun _=>rfl,fun h=>absurd h (by decide)⟩⟩
    ·exact gnot (Qas (g:=3) (b:=true) (d:=35) rfl rfl rfl (show a.tmps.getD 35 undef=.bool (decide (op=1))from g3)) (by simp[hc]) ⟨fun h=>absurd h hc,fun h=>absurd h (by decide)⟩
   | 7,hi =>
    obtain rfl:=Xd hi;intro a w6 hE hoth hpre;have g6:=(hpre {on:=6,ground:=.data} (by simp) rfl _ rfl).1;have g3:=(hpre {on:=3,ground:=.guard} (by simp) rfl _ rfl).1;by_cases hc:op=1
    ·refine gyes (Qas (g:=3) (b:=true) (d:=35) rfl rfl rfl (show a.tmps.getD 35 undef=.bool (decide (op=1))from g3)) (by simp[hc]) ?_
     exact QaO 30 (.tmp 38) rfl _ (show a.tmps.getD 38 undef=.pointer (some ⟨w.heap.size+1,2,none⟩)from(g6 hc)) _ (ld30 w6 _ kd nn vs vt (Qaa (o:=2) (hCB w6 hE) rfl) (Qaa (o:=3) (hCB w6 hE) rfl) (Qaa (o:=4) (hCB w6 hE) rfl) (Qaa (o:=5) (hCB w6 hE) rfl) (Qaa (o:=6) (hCB w6 hE) rfl) (Qaa (o:=7) (hCB w6 hE) rfl)) ⟨.refl _ _,_,rfl,⟨fun _=>rfl,fun h=>absurd h (by decide)⟩⟩
    ·exact gnot (Qas (g:=3) (b:=true) (d:=35) rfl rfl rfl (show a.tmps.getD 35 undef=.bool (decide (op=1))from g3)) (by simp[hc]) ⟨fun h=>absurd h hc,fun h=>absurd h (by decide)⟩
   | 8,hi =>
    obtain rfl:=Xd hi;intro a w6 hE hoth hpre;have g5:=(hpre {on:=5,ground:=.data} (by simp) rfl _ rfl).1;have g7:=(hpre {on:=7,ground:=.data} (by simp) rfl _ rfl).1;have g3:=(hpre {on:=3,ground:=.chain} (by simp) rfl _ rfl).1;by_cases hc:op=1
    ·refine gyes (Qas (g:=3) (b:=true) (d:=35) rfl rfl rfl (show a.tmps.getD 35 undef=.bool (decide (op=1))from g3)) (by simp[hc]) ?_
     refine Qcx 32 #[.tmp 37,.tmp 39] #[30,30] rfl Tryz.f32 func32 rfl rfl [.agg #[.int .i64 kd,.int .i64 nn,.string vs,.string vt,.slice none 0 0,.slice none 0 0],.agg #[.int .i64 kd,.int .i64 nn,.string vs,.string vt,.slice none 0 0,.slice none 0 0]] ?_ (fun v w'=>v=.bool true∧Below w6.heap.size w6 w') ((SV.out w6).mono fun e w' h=>⟨_,h.1,rfl,h.2⟩) ?_
     ·show [a.tmps.getD 37 undef,a.tmps.getD 39 undef]=_
      rw[(show a.tmps.getD 37 undef=.agg #[.int .i64 kd,.int .i64 nn,.string vs,.string vt,.slice none 0 0,.slice none 0 0]from(g5 hc)),(show a.tmps.getD 39 undef=.agg #[.int .i64 kd,.int .i64 nn,.string vs,.string vt,.slice none 0 0,.slice none 0 0]from(g7 hc))]
     ·rintro v w'⟨rfl,hb⟩
      exact⟨hb,_,rfl,fun _=>rfl,fun h=>absurd h (by decide)⟩
    ·exact gnot (Qas (g:=3) (b:=true) (d:=35) rfl rfl rfl (show a.tmps.getD 35 undef=.bool (decide (op=1))from g3)) (by simp[hc]) ⟨fun h=>absurd h hc,fun h=>absurd h (by decide)⟩
   | 9,hi =>
    obtain rfl:=Xd hi;intro a w6 hE hoth hpre;have g8:=(hpre {on:=8,ground:=.data} (by simp) rfl _ rfl).1;have g3:=(hpre {on:=3,ground:=.guard} (by simp) rfl _ rfl).1;by_cases hc:op=1
    ·refine gyes (Qas (g:=3) (b:=true) (d:=35) rfl rfl rfl (show a.tmps.getD 35 undef=.bool (decide (op=1))from g3)) (by simp[hc]) ?_
     exact QfT .not 4 (.tmp 40) rfl _ _ (show a.tmps.getD 40 undef=.bool true from(g8 hc)) rfl ⟨.refl _ _,_,rfl,⟨fun _=>rfl,fun h=>absurd h (by decide)⟩⟩
    ·exact gnot (Qas (g:=3) (b:=true) (d:=35) rfl rfl rfl (show a.tmps.getD 35 undef=.bool (decide (op=1))from g3)) (by simp[hc]) ⟨fun h=>absurd h hc,fun h=>absurd h (by decide)⟩
   | 10,hi =>
    obtain rfl:=Xd hi;intro a w6 hE hoth hpre;have g3:=(hpre {on:=3,ground:=.data} (by simp) rfl _ rfl).1;have g9:=(hpre {on:=9,ground:=.data} (by simp) rfl _ rfl).1;refine gno rfl ?_;refine QcM (.tmp 35) (.tmp 41) (.const (.bool false)) rfl _ (show a.tmps.getD 35 undef=.bool (decide (op=1))from g3) _ ?_ ⟨.refl _ _,_,rfl,⟨rfl,fun h=>absurd h (by decide)⟩⟩;by_cases hc:op=1
    ·rw[if_pos (by simp[hc])]
     exact(show a.tmps.getD 41 undef=.bool false from(g9 hc))
    ·rw[if_neg (by simp[hc])]
     rfl
   | 11,hi =>
    obtain rfl:=Xd hi;intro a w6 hE hoth hpre;have g10:=(hpre {on:=10,ground:=.data} (by simp) rfl _ rfl).1;have g8:=(hpre {on:=8,ground:=.chain} (by simp) rfl _ rfl).1;refine gno rfl ?_;exact Qb5 (.tmp 42) rfl _ (show a.tmps.getD 42 undef=.bool false from g10) ⟨.refl _ _,_,rfl,⟨rfl,fun h=>absurd h (by decide)⟩⟩
   | 12,hi =>
    obtain rfl:=Xd hi;intro a w6 hE hoth hpre;have g11:=(hpre {on:=11,ground:=.guard} (by simp) rfl _ rfl).1;refine gyes (Qas (g:=11) (b:=false) (d:=43) rfl rfl rfl (show a.tmps.getD 43 undef=.bool false from g11)) rfl ?_;exact Qaw 33 (.tmp 2) 0 rfl _ ((hoth 2 (by decide)).trans hA0) _ (Qik w6 _) ⟨.refl _ _,_,rfl,⟨rfl,fun h=>absurd h (by decide)⟩⟩
   | 13,hi =>
    obtain rfl:=Xd hi;intro a w6 hE hoth hpre;have g12:=(hpre {on:=12,ground:=.data} (by simp) rfl _ rfl).1;have g11:=(hpre {on:=11,ground:=.guard} (by simp) rfl _ rfl).1;refine gyes (Qas (g:=11) (b:=false) (d:=43) rfl rfl rfl (show a.tmps.getD 43 undef=.bool false from g11)) rfl ?_;exact QaO 3 (.tmp 44) rfl _ (show a.tmps.getD 44 undef=.pointer (some ⟨w.heap.size,0,none⟩)from g12) _ (ldi3 w6 _ _ _ (Qaa (o:=0) (hCA w6 hE) rfl)) ⟨.refl _ _,_,rfl,⟨rfl,fun h=>absurd h (by decide)⟩⟩
   | 14,hi =>
    obtain rfl:=Xd hi;intro a w6 hE hoth hpre;have g13:=(hpre {on:=13,ground:=.data} (by simp) rfl _ rfl).1;have g11:=(hpre {on:=11,ground:=.guard} (by simp) rfl _ rfl).1;refine gyes (Qas (g:=11) (b:=false) (d:=43) rfl rfl rfl (show a.tmps.getD 43 undef=.bool false from g11)) rfl ?_;exact QcI .eql 3 3 (.tmp 45) (.const (.int .i64 30)) rfl _ _ (show a.tmps.getD 45 undef=.int .i64 op from g13) rfl _ (eq3 w6 _ _ op 30) ⟨.refl _ _,_,rfl,⟨rfl,fun h=>absurd h (by decide)⟩⟩
   | 15,hi =>
    obtain rfl:=Xd hi;intro a w6 hE hoth hpre;have g14:=(hpre {on:=14,ground:=.data} (by simp) rfl _ rfl).1;have g11:=(hpre {on:=11,ground:=.chain} (by simp) rfl _ rfl).1;refine gyes (Qas (g:=11) (b:=false) (d:=43) rfl rfl rfl (show a.tmps.getD 43 undef=.bool false from g11)) rfl ?_;exact Qb5 (.tmp 46) rfl _ (show a.tmps.getD 46 undef=.bool (decide (op=30))from g14) ⟨.refl _ _,_,rfl,⟨rfl,fun h=>absurd h (by decide)⟩⟩
   | 16,hi =>
    obtain rfl:=Xd hi;intro a w6 hE hoth hpre;have g15:=(hpre {on:=15,ground:=.guard} (by simp) rfl _ rfl).1;by_cases hc:op=30
    ·refine gyes (Qas (g:=15) (b:=true) (d:=47) rfl rfl rfl (show a.tmps.getD 47 undef=.bool (decide (op=30))from g15)) (by simp[hc]) ?_
     exact Qaw 33 (.tmp 2) 3 rfl _ ((hoth 2 (by decide)).trans hA0) _ (fd33_3 w6 _) ⟨.refl _ _,_,rfl,⟨fun _=>rfl,fun h=>absurd h (by decide)⟩⟩
    ·exact gnot (Qas (g:=15) (b:=true) (d:=47) rfl rfl rfl (show a.tmps.getD 47 undef=.bool (decide (op=30))from g15)) (by simp[hc]) ⟨fun h=>absurd h hc,fun h=>absurd h (by decide)⟩
   | 17,hi =>
    obtain rfl:=Xd hi;intro a w6 hE hoth hpre;have g16:=(hpre {on:=16,ground:=.data} (by simp) rfl _ rfl).1;have g15:=(hpre {on:=15,ground:=.guard} (by simp) rfl _ rfl).1;by_cases hc:op=30
    ·refine gyes (Qas (g:=15) (b:=true) (d:=47) rfl rfl rfl (show a.tmps.getD 47 undef=.bool (decide (op=30))from g15)) (by simp[hc]) ?_
     exact QaO 27 (.tmp 48) rfl _ (show a.tmps.getD 48 undef=.pointer (some ⟨w.heap.size,8,none⟩)from(g16 hc)) _ (ld27 w6 _ _ _ _ _ (Qaa (o:=8) (hCA w6 hE) rfl)) ⟨.refl _ _,_,rfl,⟨fun _=>rfl,fun h=>absurd h (by decide)⟩⟩
    ·exact gnot (Qas (g:=15) (b:=true) (d:=47) rfl rfl rfl (show a.tmps.getD 47 undef=.bool (decide (op=30))from g15)) (by simp[hc]) ⟨fun h=>absurd h hc,fun h=>absurd h (by decide)⟩
   | 18,hi =>
    obtain rfl:=Xd hi;intro a w6 hE hoth hpre;have g15:=(hpre {on:=15,ground:=.guard} (by simp) rfl _ rfl).1;by_cases hc:op=30
    ·refine gyes (Qas (g:=15) (b:=true) (d:=47) rfl rfl rfl (show a.tmps.getD 47 undef=.bool (decide (op=30))from g15)) (by simp[hc]) ?_
     exact Qaw 33 (.tmp 3) 3 rfl _ ((hoth 3 (by decide)).trans hB0) _ (fd33_3 w6 _) ⟨.refl _ _,_,rfl,⟨fun _=>rfl,fun h=>absurd h (by decide)⟩⟩
    ·exact gnot (Qas (g:=15) (b:=true) (d:=47) rfl rfl rfl (show a.tmps.getD 47 undef=.bool (decide (op=30))from g15)) (by simp[hc]) ⟨fun h=>absurd h hc,fun h=>absurd h (by decide)⟩
   | 19,hi =>
    obtain rfl:=Xd hi;intro a w6 hE hoth hpre;have g18:=(hpre {on:=18,ground:=.data} (by simp) rfl _ rfl).1;have g15:=(hpre {on:=15,ground:=.guard} (by simp) rfl _ rfl).1;by_cases hc:op=30
    ·refine gyes (Qas (g:=15) (b:=true) (d:=47) rfl rfl rfl (show a.tmps.getD 47 undef=.bool (decide (op=30))from g15)) (by simp[hc]) ?_
     exact QaO 27 (.tmp 50) rfl _ (show a.tmps.getD 50 undef=.pointer (some ⟨w.heap.size+1,8,none⟩)from(g18 hc)) _ (ld27 w6 _ _ _ _ _ (Qaa (o:=8) (hCB w6 hE) rfl)) ⟨.refl _ _,_,rfl,⟨fun _=>rfl,fun h=>absurd h (by decide)⟩⟩
    ·exact gnot (Qas (g:=15) (b:=true) (d:=47) rfl rfl rfl (show a.tmps.getD 47 undef=.bool (decide (op=30))from g15)) (by simp[hc]) ⟨fun h=>absurd h hc,fun h=>absurd h (by decide)⟩
   | 20,hi =>
    obtain rfl:=Xd hi;intro a w6 hE hoth hpre;have g17:=(hpre {on:=17,ground:=.data} (by simp) rfl _ rfl).1;have g19:=(hpre {on:=19,ground:=.data} (by simp) rfl _ rfl).1;have g15:=(hpre {on:=15,ground:=.chain} (by simp) rfl _ rfl).1;by_cases hc:op=30
    ·refine gyes (Qas (g:=15) (b:=true) (d:=47) rfl rfl rfl (show a.tmps.getD 47 undef=.bool (decide (op=30))from g15)) (by simp[hc]) ?_
     refine Qcx 33 #[.tmp 49,.tmp 51] #[27,27] rfl Tryz.f33 func33 rfl rfl [.slice pk keys.length ck,.slice qk keys.length dk] ?_ (fun v w'=>v=.bool true∧Below w6.heap.size w6 w') ((SS.out w6 (hE0.trans (hE.mono hz2))).mono fun e w' h=>⟨_,h.1,rfl,h.2⟩) ?_
     ·show [a.tmps.getD 49 undef,a.tmps.getD 51 undef]=_
      rw[(show a.tmps.getD 49 undef=.slice pk keys.length ck from(g17 hc)),(show a.tmps.getD 51 undef=.slice qk keys.length dk from(g19 hc))]
     ·rintro v w'⟨rfl,hb⟩
      exact⟨hb,_,rfl,fun _=>rfl,fun h=>absurd h (by decide)⟩
    ·exact gnot (Qas (g:=15) (b:=true) (d:=47) rfl rfl rfl (show a.tmps.getD 47 undef=.bool (decide (op=30))from g15)) (by simp[hc]) ⟨fun h=>absurd h hc,fun h=>absurd h (by decide)⟩
   | 21,hi =>
    obtain rfl:=Xd hi;intro a w6 hE hoth hpre;have g20:=(hpre {on:=20,ground:=.data} (by simp) rfl _ rfl).1;have g15:=(hpre {on:=15,ground:=.guard} (by simp) rfl _ rfl).1;by_cases hc:op=30
    ·refine gyes (Qas (g:=15) (b:=true) (d:=47) rfl rfl rfl (show a.tmps.getD 47 undef=.bool (decide (op=30))from g15)) (by simp[hc]) ?_
     exact QfT .not 4 (.tmp 52) rfl _ _ (show a.tmps.getD 52 undef=.bool true from(g20 hc)) rfl ⟨.refl _ _,_,rfl,⟨fun _=>rfl,fun h=>absurd h (by decide)⟩⟩
    ·exact gnot (Qas (g:=15) (b:=true) (d:=47) rfl rfl rfl (show a.tmps.getD 47 undef=.bool (decide (op=30))from g15)) (by simp[hc]) ⟨fun h=>absurd h hc,fun h=>absurd h (by decide)⟩
   | 22,hi =>
    obtain rfl:=Xd hi;intro a w6 hE hoth hpre;have g15:=(hpre {on:=15,ground:=.data} (by simp) rfl _ rfl).1;have g21:=(hpre {on:=21,ground:=.data} (by simp) rfl _ rfl).1;have g11:=(hpre {on:=11,ground:=.guard} (by simp) rfl _ rfl).1;refine gyes (Qas (g:=11) (b:=false) (d:=43) rfl rfl rfl (show a.tmps.getD 43 undef=.bool false from g11)) rfl ?_;refine QcM (.tmp 47) (.tmp 53) (.const (.bool false)) rfl _ (show a.tmps.getD 47 undef=.bool (decide (op=30))from g15) _ ?_ ⟨.refl _ _,_,rfl,⟨rfl,fun h=>absurd h (by decide)⟩⟩
    by_cases hc:op=30
    ·rw[if_pos (by simp[hc])]
     exact(show a.tmps.getD 53 undef=.bool false from(g21 hc))
    ·rw[if_neg (by simp[hc])]
     rfl
   | 23,hi =>
    obtain rfl:=Xd hi;intro a w6 hE hoth hpre;have g11:=(hpre {on:=11,ground:=.data} (by simp) rfl _ rfl).1;have g22:=(hpre {on:=22,ground:=.data} (by simp) rfl _ rfl).1;refine gno rfl ?_;refine QcM (.tmp 43) (.const (.bool true)) (.tmp 54) rfl _ (show a.tmps.getD 43 undef=.bool false from g11) _ ?_ ⟨.refl _ _,_,rfl,⟨rfl,fun h=>absurd h (by decide)⟩⟩;rw[if_neg (by simp)];exact(show a.tmps.getD 54 undef=.bool false from g22)
   | 24,hi =>
    obtain rfl:=Xd hi;intro a w6 hE hoth hpre;have g23:=(hpre {on:=23,ground:=.data} (by simp) rfl _ rfl).1;have g20:=(hpre {on:=20,ground:=.chain} (by simp) rfl _ rfl).1;refine gno rfl ?_;exact Qb5 (.tmp 55) rfl _ (show a.tmps.getD 55 undef=.bool false from g23) ⟨.refl _ _,_,rfl,⟨rfl,fun h=>absurd h (by decide)⟩⟩
   | 25,hi =>
    obtain rfl:=Xd hi;intro a w6 hE hoth hpre;have g24:=(hpre {on:=24,ground:=.guard} (by simp) rfl _ rfl).1;refine gyes (Qas (g:=24) (b:=false) (d:=56) rfl rfl rfl (show a.tmps.getD 56 undef=.bool false from g24)) rfl ?_;exact Qaw 33 (.tmp 2) 0 rfl _ ((hoth 2 (by decide)).trans hA0) _ (Qik w6 _) ⟨.refl _ _,_,rfl,⟨rfl,fun h=>absurd h (by decide)⟩⟩
   | 26,hi =>
    obtain rfl:=Xd hi;intro a w6 hE hoth hpre;have g25:=(hpre {on:=25,ground:=.data} (by simp) rfl _ rfl).1;have g24:=(hpre {on:=24,ground:=.guard} (by simp) rfl _ rfl).1;refine gyes (Qas (g:=24) (b:=false) (d:=56) rfl rfl rfl (show a.tmps.getD 56 undef=.bool false from g24)) rfl ?_;exact QaO 3 (.tmp 57) rfl _ (show a.tmps.getD 57 undef=.pointer (some ⟨w.heap.size,0,none⟩)from g25) _ (ldi3 w6 _ _ _ (Qaa (o:=0) (hCA w6 hE) rfl)) ⟨.refl _ _,_,rfl,⟨rfl,fun h=>absurd h (by decide)⟩⟩
   | 27,hi =>
    obtain rfl:=Xd hi;intro a w6 hE hoth hpre;have g26:=(hpre {on:=26,ground:=.data} (by simp) rfl _ rfl).1;have g24:=(hpre {on:=24,ground:=.guard} (by simp) rfl _ rfl).1;refine gyes (Qas (g:=24) (b:=false) (d:=56) rfl rfl rfl (show a.tmps.getD 56 undef=.bool false from g24)) rfl ?_;exact QcI .eql 3 3 (.tmp 58) (.const (.int .i64 15)) rfl _ _ (show a.tmps.getD 58 undef=.int .i64 op from g26) rfl _ (eq3 w6 _ _ op 15) ⟨.refl _ _,_,rfl,⟨rfl,fun h=>absurd h (by decide)⟩⟩
   | 28,hi =>
    obtain rfl:=Xd hi;intro a w6 hE hoth hpre;have g27:=(hpre {on:=27,ground:=.data} (by simp) rfl _ rfl).1;have g24:=(hpre {on:=24,ground:=.chain} (by simp) rfl _ rfl).1;refine gyes (Qas (g:=24) (b:=false) (d:=56) rfl rfl rfl (show a.tmps.getD 56 undef=.bool false from g24)) rfl ?_;exact Qb5 (.tmp 59) rfl _ (show a.tmps.getD 59 undef=.bool (decide (op=15))from g27) ⟨.refl _ _,_,rfl,⟨rfl,fun h=>absurd h (by decide)⟩⟩
   | 29,hi =>
    obtain rfl:=Xd hi;intro a w6 hE hoth hpre;have g28:=(hpre {on:=28,ground:=.guard} (by simp) rfl _ rfl).1;by_cases hc:op=15
    ·refine gyes (Qas (g:=28) (b:=true) (d:=60) rfl rfl rfl (show a.tmps.getD 60 undef=.bool (decide (op=15))from g28)) (by simp[hc]) ?_
     exact Qaw 33 (.tmp 2) 4 rfl _ ((hoth 2 (by decide)).trans hA0) _ (fd33_4 w6 _) ⟨.refl _ _,_,rfl,⟨fun _=>rfl,fun h=>absurd h (by decide)⟩⟩
    ·exact gnot (Qas (g:=28) (b:=true) (d:=60) rfl rfl rfl (show a.tmps.getD 60 undef=.bool (decide (op=15))from g28)) (by simp[hc]) ⟨fun h=>absurd h hc,fun h=>absurd h (by decide)⟩
   | 30,hi =>
    obtain rfl:=Xd hi;intro a w6 hE hoth hpre;have g29:=(hpre {on:=29,ground:=.data} (by simp) rfl _ rfl).1;have g28:=(hpre {on:=28,ground:=.guard} (by simp) rfl _ rfl).1;by_cases hc:op=15
    ·refine gyes (Qas (g:=28) (b:=true) (d:=60) rfl rfl rfl (show a.tmps.getD 60 undef=.bool (decide (op=15))from g28)) (by simp[hc]) ?_
     exact QaO 27 (.tmp 61) rfl _ (show a.tmps.getD 61 undef=.pointer (some ⟨w.heap.size,9,none⟩)from(g29 hc)) _ (ld27 w6 _ _ _ _ _ (Qaa (o:=9) (hCA w6 hE) rfl)) ⟨.refl _ _,_,rfl,⟨fun _=>rfl,fun h=>absurd h (by decide)⟩⟩
    ·exact gnot (Qas (g:=28) (b:=true) (d:=60) rfl rfl rfl (show a.tmps.getD 60 undef=.bool (decide (op=15))from g28)) (by simp[hc]) ⟨fun h=>absurd h hc,fun h=>absurd h (by decide)⟩
   | 31,hi =>
    obtain rfl:=Xd hi;intro a w6 hE hoth hpre;have g30:=(hpre {on:=30,ground:=.data} (by simp) rfl _ rfl).1;have g28:=(hpre {on:=28,ground:=.chain} (by simp) rfl _ rfl).1;by_cases hc:op=15
    ·refine gyes (Qas (g:=28) (b:=true) (d:=60) rfl rfl rfl (show a.tmps.getD 60 undef=.bool (decide (op=15))from g28)) (by simp[hc]) ?_
     refine Qcx 34 #[.tmp 62] #[27] rfl Tryz.f34 func34 rfl rfl [.slice pp pieces.length cp] ?_ (fun v w'=>(∃p c,v=.slice p (Qiv pieces).length c∧StRow w' p (Qiv pieces))∧Below w6.heap.size w6 w') ((BRA.out w6 (hE0.trans (hE.mono hz2))).mono fun e w' h=>by obtain⟨hb,p,c,he,hr⟩:=h;exact⟨_,he,⟨p,c,rfl,hr⟩,hb⟩) ?_
     ·show [a.tmps.getD 62 undef]=_
      rw[(show a.tmps.getD 62 undef=.slice pp pieces.length cp from(g30 hc))]
     ·rintro v w'⟨hr,hb⟩
      exact⟨hb,_,rfl,trivial,fun _ _=>hr⟩
    ·exact gnot (Qas (g:=28) (b:=true) (d:=60) rfl rfl rfl (show a.tmps.getD 60 undef=.bool (decide (op=15))from g28)) (by simp[hc]) ⟨trivial,fun _ h=>absurd h hc⟩
   | 32,hi =>
    obtain rfl:=Xd hi;intro a w6 hE hoth hpre;have g28:=(hpre {on:=28,ground:=.guard} (by simp) rfl _ rfl).1;by_cases hc:op=15
    ·refine gyes (Qas (g:=28) (b:=true) (d:=60) rfl rfl rfl (show a.tmps.getD 60 undef=.bool (decide (op=15))from g28)) (by simp[hc]) ?_
     exact Qaw 33 (.tmp 3) 4 rfl _ ((hoth 3 (by decide)).trans hB0) _ (fd33_4 w6 _) ⟨.refl _ _,_,rfl,⟨fun _=>rfl,fun h=>absurd h (by decide)⟩⟩
    ·exact gnot (Qas (g:=28) (b:=true) (d:=60) rfl rfl rfl (show a.tmps.getD 60 undef=.bool (decide (op=15))from g28)) (by simp[hc]) ⟨fun h=>absurd h hc,fun h=>absurd h (by decide)⟩
   | 33,hi =>
    obtain rfl:=Xd hi;intro a w6 hE hoth hpre;have g32:=(hpre {on:=32,ground:=.data} (by simp) rfl _ rfl).1;have g28:=(hpre {on:=28,ground:=.guard} (by simp) rfl _ rfl).1;by_cases hc:op=15
    ·refine gyes (Qas (g:=28) (b:=true) (d:=60) rfl rfl rfl (show a.tmps.getD 60 undef=.bool (decide (op=15))from g28)) (by simp[hc]) ?_
     exact QaO 27 (.tmp 64) rfl _ (show a.tmps.getD 64 undef=.pointer (some ⟨w.heap.size+1,9,none⟩)from(g32 hc)) _ (ld27 w6 _ _ _ _ _ (Qaa (o:=9) (hCB w6 hE) rfl)) ⟨.refl _ _,_,rfl,⟨fun _=>rfl,fun h=>absurd h (by decide)⟩⟩
    ·exact gnot (Qas (g:=28) (b:=true) (d:=60) rfl rfl rfl (show a.tmps.getD 60 undef=.bool (decide (op=15))from g28)) (by simp[hc]) ⟨fun h=>absurd h hc,fun h=>absurd h (by decide)⟩
   | 34,hi =>
    obtain rfl:=Xd hi;intro a w6 hE hoth hpre;have g33:=(hpre {on:=33,ground:=.data} (by simp) rfl _ rfl).1;have g31:=(hpre {on:=31,ground:=.chain} (by simp) rfl _ rfl).2 (by decide);have g28:=(hpre {on:=28,ground:=.guard} (by simp) rfl _ rfl).1;by_cases hc:op=15
    ·refine gyes (Qas (g:=28) (b:=true) (d:=60) rfl rfl rfl (show a.tmps.getD 60 undef=.bool (decide (op=15))from g28)) (by simp[hc]) ?_
     refine Qcx 34 #[.tmp 65] #[27] rfl Tryz.f34 func34 rfl rfl [.slice qp pieces.length dp] ?_ (fun v w'=>(∃p c,v=.slice p (Qiv pieces).length c∧StRow w' p (Qiv pieces))∧Below w6.heap.size w6 w') ((BRB.out w6 (hE0.trans (hE.mono hz2))).mono fun e w' h=>by obtain⟨hb,p,c,he,hr⟩:=h;exact⟨_,he,⟨p,c,rfl,hr⟩,hb⟩) ?_
     ·show [a.tmps.getD 65 undef]=_
      rw[(show a.tmps.getD 65 undef=.slice qp pieces.length dp from(g33 hc))]
     ·rintro v w'⟨hr,hb⟩
      exact⟨hb,_,rfl,trivial,fun _ _=>hr⟩
    ·exact gnot (Qas (g:=28) (b:=true) (d:=60) rfl rfl rfl (show a.tmps.getD 60 undef=.bool (decide (op=15))from g28)) (by simp[hc]) ⟨trivial,fun _ h=>absurd h hc⟩
   | 35,hi =>
    obtain rfl:=Xd hi;intro a w6 hE hoth hpre;have g31:=(hpre {on:=31,ground:=.data} (by simp) rfl _ rfl).2 (by decide);have g34:=(hpre {on:=34,ground:=.data} (by simp) rfl _ rfl).2 (by decide);have g28:=(hpre {on:=28,ground:=.guard} (by simp) rfl _ rfl).1;by_cases hc:op=15
    ·refine gyes (Qas (g:=28) (b:=true) (d:=60) rfl rfl rfl (show a.tmps.getD 60 undef=.bool (decide (op=15))from g28)) (by simp[hc]) ?_
     obtain⟨p1,c1,e1,r1⟩:=g31 hc;obtain⟨p2,c2,e2,r2⟩:=g34 hc;refine Qcx 33 #[.tmp 63,.tmp 66] #[27,27] rfl Tryz.f33 func33 rfl rfl [.slice p1 (Qiv pieces).length c1,.slice p2 (Qiv pieces).length c2] ?_ (fun v w'=>v=.bool true∧Below w6.heap.size w6 w') ((ss_c (Qiv pieces) (QiU hp) w6 p1 p2 c1 c2 r1 r2).mono fun e w' h=>⟨_,h.1,rfl,h.2⟩) ?_
     ·show [a.tmps.getD 63 undef,a.tmps.getD 66 undef]=_
      rw[(show a.tmps.getD 63 undef=_ from e1),(show a.tmps.getD 66 undef=_ from e2)]
     ·rintro v w'⟨rfl,hb⟩
      exact⟨hb,_,rfl,fun _=>rfl,fun h=>absurd h (by decide)⟩
    ·exact gnot (Qas (g:=28) (b:=true) (d:=60) rfl rfl rfl (show a.tmps.getD 60 undef=.bool (decide (op=15))from g28)) (by simp[hc]) ⟨fun h=>absurd h hc,fun h=>absurd h (by decide)⟩
   | 36,hi =>
    obtain rfl:=Xd hi;intro a w6 hE hoth hpre;have g35:=(hpre {on:=35,ground:=.data} (by simp) rfl _ rfl).1;have g28:=(hpre {on:=28,ground:=.guard} (by simp) rfl _ rfl).1;by_cases hc:op=15
    ·refine gyes (Qas (g:=28) (b:=true) (d:=60) rfl rfl rfl (show a.tmps.getD 60 undef=.bool (decide (op=15))from g28)) (by simp[hc]) ?_
     exact QfT .not 4 (.tmp 67) rfl _ _ (show a.tmps.getD 67 undef=.bool true from(g35 hc)) rfl ⟨.refl _ _,_,rfl,⟨fun _=>rfl,fun h=>absurd h (by decide)⟩⟩
    ·exact gnot (Qas (g:=28) (b:=true) (d:=60) rfl rfl rfl (show a.tmps.getD 60 undef=.bool (decide (op=15))from g28)) (by simp[hc]) ⟨fun h=>absurd h hc,fun h=>absurd h (by decide)⟩
   | 37,hi =>
    obtain rfl:=Xd hi;intro a w6 hE hoth hpre;have g28:=(hpre {on:=28,ground:=.data} (by simp) rfl _ rfl).1;have g36:=(hpre {on:=36,ground:=.data} (by simp) rfl _ rfl).1;have g24:=(hpre {on:=24,ground:=.guard} (by simp) rfl _ rfl).1;refine gyes (Qas (g:=24) (b:=false) (d:=56) rfl rfl rfl (show a.tmps.getD 56 undef=.bool false from g24)) rfl ?_;refine QcM (.tmp 60) (.tmp 68) (.const (.bool false)) rfl _ (show a.tmps.getD 60 undef=.bool (decide (op=15))from g28) _ ?_ ⟨.refl _ _,_,rfl,⟨rfl,fun h=>absurd h (by decide)⟩⟩
    by_cases hc:op=15
    ·rw[if_pos (by simp[hc])]
     exact(show a.tmps.getD 68 undef=.bool false from(g36 hc))
    ·rw[if_neg (by simp[hc])]
     rfl
   | 38,hi =>
    obtain rfl:=Xd hi;intro a w6 hE hoth hpre;have g24:=(hpre {on:=24,ground:=.data} (by simp) rfl _ rfl).1;have g37:=(hpre {on:=37,ground:=.data} (by simp) rfl _ rfl).1;refine gno rfl ?_;refine QcM (.tmp 56) (.const (.bool true)) (.tmp 69) rfl _ (show a.tmps.getD 56 undef=.bool false from g24) _ ?_ ⟨.refl _ _,_,rfl,⟨rfl,fun h=>absurd h (by decide)⟩⟩;rw[if_neg (by simp)];exact(show a.tmps.getD 69 undef=.bool false from g37)
   | j+39,hi=>simp at hi
def PrRow(w:World)(p:Option Addr)(l:List (ByteArray×ByteArray)):Prop:=∀(i:Nat) u,l[i]? =some u→∃b off,p=some ⟨b,off,none⟩∧b<w.heap.size∧w.cell? ⟨b,off+i*2,none⟩=some (.string u.1)∧w.cell? ⟨b,off+i*2+1,none⟩=some (.string u.2)
theorem RwU.pairs{w:World}{U:Nat→Prop}{t:TypeId}{p:Option Addr}{l:List (ByteArray×ByteArray)}(h:RwU w U t 2 p l.length (Qav l)):PrRow w p l:=by
 intro i u hi;have hl:i<l.length:=(List.getElem?_eq_some_iff.1 hi).1;obtain⟨b,off,c,fr,rfl,_,hb,hc⟩:=h.2.resolve_left (by omega);have hu:=Qcd l i hl;have hd:l.getD i (⟨#[]⟩,⟨#[]⟩)=u:=by rw[List.getD_eq_getElem?_getD,hi];rfl
 rw[hd]at hu;refine⟨b,off,rfl,Qad hb,Qaa hb ?_,Qaa hb ?_⟩
 ·rw[hc _ (by omega)];exact hu.1
 ·rw[Nat.add_assoc,hc _ (by omega)];exact hu.2
theorem PrRow.after{w w':World}{p:Option Addr}{l:List (ByteArray×ByteArray)}(h:PrRow w p l)(hb:Below w.heap.size w w'):PrRow w' p l:=fun i u hi=>by
 obtain⟨b,o,e,hlt,h1,h2⟩:=h i u hi;exact⟨b,o,e,Nat.lt_of_lt_of_le hlt hb.size,(Ext.below (S:=fun _=>False) hb).cell (fun h=>h) h1,(Ext.below (S:=fun _=>False) hb).cell (fun h=>h) h2⟩
@[local go_sem] theorem eql56(X Y:Operand)(a b:ByteArray)(w:World):(do eqGuard .eql 56 X Y (.agg #[.string a,.string b]) (.agg #[.string a,.string b]);binOp .eql 56 (.agg #[.string a,.string b]) (.agg #[.string a,.string b]):Sem Value).run prog w=.ok (.bool true) w:=by
 go_simp
def ScRl(w0:World)(n A B:Nat)(p q:Option Addr)(c d:Nat)(v5:Value)(wr:World):Prop:=∃i,v5=.int .i64 ((i:Nat):Int)∧i≤n∧Below w0.heap.size w0 wr∧wr.cell? ⟨A,3,none⟩=some (.slice p n c)∧wr.cell? ⟨B,3,none⟩=some (.slice q n d)
theorem ssc_c(x:PSc)(hl:x.l.length≤1000000)(w:World)(U V:Nat→Prop)(cs ds:List Value)(ha:ScsIs w U cs x)(hb:ScsIs w V ds x):Calls prog 45 #[.agg cs.toArray,.agg ds.toArray] w (SeP w):=by
 obtain⟨p,c,rfl,hr1⟩:=ha;obtain⟨q,d,rfl,hr2⟩:=hb;obtain⟨kd,⟨u1,u2⟩,l,ty⟩:=x;simp only at hl hr1 hr2 ⊢;have HR1:=Hi hr1.pairs;have HR2:=Hi hr2.pairs;clear hr1 hr2;go_enter func45,ntmps45
 go_upto_region 1 with(fail)
 refine QaB fun w1 hw1=>?_
 have B1:Below w.heap.size w w1:=by rw[hw1];exact(Qab w _).alloc (by simp) _
 have hA:w1.heap[w.heap.size]? =some (.cells #[.int .i64 kd,.string u1,.string u2,.slice p l.length c,.string ty] 59 (0,0)):=by rw[hw1];exact Qaf (Xa w _) _
 have hB:w1.heap[w.heap.size+1]? =some (.cells #[.int .i64 kd,.string u1,.string u2,.slice q l.length d,.string ty] 59 (0,0)):=by rw[hw1];exact Qah (by simp) _
 clear hw1;have HB1:=Hi B1;clear B1;obtain⟨a0,a1,a2,a3,a4⟩:=Cl5 hA rfl rfl rfl rfl rfl;obtain⟨b0,b1,b2,b3,b4⟩:=Cl5 hB rfl rfl rfl rfl rfl;clear hA hB;by_cases h1:kd=1
 ·subst h1
  go_wp2_with fail
  go_ret;exact⟨rfl,HB1.out⟩
 by_cases h2:kd=2
 ·subst h2
  go_wp2_with fail
  go_ret;exact⟨rfl,HB1.out⟩
 by_cases h4:kd=4
 ·subst h4
  go_wp2_with fail
  go_ret;exact⟨rfl,HB1.out⟩
 by_cases h5:kd=5
 ·subst h5
  go_wp2_with fail
  go_ret;exact⟨rfl,HB1.out⟩
 by_cases h3:kd=3
 ·subst h3
  have HQ:Hid (ScRl w1 l.length w.heap.size (w.heap.size+1) p q c d (.int .i64 0) w1):=Hi ⟨0,rfl,Nat.zero_le _,.refl _ _,a3,b3⟩;clear h1 h2 h4 h5
  go_upto_region 15 with(fail)
  go_loopw [5] (fun v5 wr=>ScRl w1 l.length w.heap.size (w.heap.size+1) p q c d v5 wr) (fun v5 _=>l.length-(intOf v5).toNat)
  case atStart=>exact HQ.out
  case round =>
   clear HQ a0 a1 a2 a3 a4 b0 b1 b2 b3 b4;obtain⟨i,rfl,hi,hB,q3,r3⟩:=hrel;have HBI:=Hi hB;by_cases hlt:i<l.length
   ·obtain⟨⟨s,t⟩,hu⟩:∃u,l[i]? =some u:=⟨l[i],by simp[hlt]⟩
    obtain⟨g1,o1,rfl,_,m1,m2⟩:=((HR1.out.after HB1.out).after hB) i _ hu;obtain⟨g2,o2,rfl,_,n1,n2⟩:=((HR2.out.after HB1.out).after hB) i _ hu;clear hu hB;have HDN:Hid (∀n,ScRl w1 l.length w.heap.size (w.heap.size+1) (some ⟨g1,o1,none⟩) (some ⟨g2,o2,none⟩) c d (.int .i64 ((i:Int)+1)) (wr.drewN n)):=Hi fun n=>⟨i+1,by go_num,by omega,((Ext.below (S:=fun _=>False) HBI.out).drewN n).toBelow (fun _ h=>h.elim) (Xb _),q3,r3⟩
    go_upto_region 17 with(fail)
    go_quiet (fail)
    go_wp2_with fail
    go_roundw
    case rel=>exact HDN.out _
    case measure=>simp[intOf];omega
   ·obtain rfl:i=l.length:=by omega
    clear hB
    go_wp2_with fail
    go_ret;exact⟨rfl,HB1.out.trans (HBI.out.mono HB1.out.size)⟩
 go_wp2_with fail
 go_ret;exact⟨rfl,HB1.out⟩
@[local go_sem] theorem eql66(X Y:Operand)(a b:ByteArray)(w:World):(do eqGuard .eql 66 X Y (.agg #[.string a,.string b]) (.agg #[.string a,.string b]);binOp .eql 66 (.agg #[.string a,.string b]) (.agg #[.string a,.string b]):Sem Value).run prog w=.ok (.bool true) w:=by
 go_simp
def SpA(w0:World)(A B o n:Nat)(p q:Option Addr)(c d:Nat)(i:Nat)(wr:World):Prop:=i≤n∧Below w0.heap.size w0 wr∧wr.cell? ⟨A,o,none⟩=some (.slice p n c)∧wr.cell? ⟨B,o,none⟩=some (.slice q n d)
def SpN(w0:World)(A B n m:Nat)(p q p' q':Option Addr)(c d c' d':Nat)(v7:Value)(wr:World):Prop:=∃i,v7=.int .i64 ((i:Nat):Int)∧SpA w0 A B 1 n p q c d i wr∧SpA w0 A B 17 m p' q' c' d' 0 wr
def SpC(w0:World)(A B m:Nat)(p' q':Option Addr)(c' d':Nat)(v8:Value)(wr:World):Prop:=∃i,v8=.int .i64 ((i:Nat):Int)∧SpA w0 A B 17 m p' q' c' d' i wr
theorem cn_row{w:World}{U:Nat→Prop}{p:Option Addr}{l:List (Bool×PEx)}{cs:List Value}(h:RwU w U 80 12 p l.length cs)(hc:CnIs w U cs l){i:Nat}{a:Bool×PEx}(hi:l[i]? =some a) :
  ∃b o,p=some ⟨b,o,none⟩∧b<w.heap.size∧w.cell? ⟨b,o+i*12,none⟩=some (.bool a.1)∧∃ds,PxIs w U ds a.2∧∀j v,ds[j]? =some v→w.cell? ⟨b,o+i*12+1+j,none⟩=some v:=by
 have hl:i<l.length:=(List.getElem?_eq_some_iff.1 hi).1;obtain⟨h1,h2⟩:=h;obtain⟨b,o,c,fr,rfl,_,hb,hcc⟩:=h2.resolve_left (by omega);have hm:(i+1)*12≤l.length*12:=Nat.mul_le_mul_right _ hl;obtain⟨k1,k2⟩:=hc.2 i a hi;refine⟨b,o,rfl,Qad hb,Qaa hb (by rw[hcc _ (by omega)];exact k1),_,k2,fun j v hv=>?_⟩;have hj:j<11:=by
  have:=(List.getElem?_eq_some_iff.1 hv).1;have h11:=k2.len;omega
 rw[List.getElem?_take_of_lt hj,List.getElem?_drop]at hv;refine Qaa hb ?_;rw[show o+i*12+1+j=o+(i*12+1+j)by omega,hcc _ (by omega)];exact hv
theorem sp_c(P:PPol)(hn:P.notes.length≤1000000)(h1:P.pr.l.length≤1000000)(h2:P.ac.l.length≤1000000)(h3:P.re.l.length≤1000000)(hcl:P.conds.length≤1000000)(hx:∀c∈P.conds,SeOk c.2)
  (w:World)(U V:Nat→Prop)(cs ds:List Value)(ha:PpIs w U cs P)(hb:PpIs w V ds P):Calls prog 26 #[.agg cs.toArray,.agg ds.toArray,.func (.func 12) #[] #[]] w (SeP w):=by
 obtain⟨pn,cn,s1,s2,s3,pc,cc,cells,rfl,n1,k1,k2,k3,r1,c1⟩:=ha;obtain⟨qn,dn,t1,t2,t3,qc,dc,cellt,rfl,m1,l1,l2,l3,r2,c2⟩:=hb;have HS1:=Hi (Xc k1 l1);have HS2:=Hi (Xc k2 l2);have HS3:=Hi (Xc k3 l3);have HN:=Hi (Xc n1.pairs m1.pairs);have HCC:=Hi (Xc (Xc r1 c1) (Xc r2 c2));have HB:=Hi (Xc h1 (Xc h2 (Xc h3 hx)));obtain⟨p1,e1,rfl,-⟩:=k1;obtain⟨p2,e2,rfl,-⟩:=k2;obtain⟨p3,e3,rfl,-⟩:=k3;obtain⟨q1,f1,rfl,-⟩:=l1
 obtain⟨q2,f2,rfl,-⟩:=l2;obtain⟨q3,f3,rfl,-⟩:=l3;clear n1 m1 r1 r2 c1 c2 h1 h2 h3 hx;go_enter func26,ntmps26
 go_upto_region 1 with(fail)
 refine QaB fun w1 hw1=>?_
 have B1:Below w.heap.size w w1:=by rw[hw1];exact(Qab w _).alloc (by simp) _
 have hA:w1.heap[w.heap.size]? =some (.cells (pCell P.forbid (.slice pn P.notes.length cn) P.pr.kind P.pr.u.1 P.pr.u.2 (.slice p1 P.pr.l.length e1) P.pr.ty P.ac.kind P.ac.u.1 P.ac.u.2 (.slice p2 P.ac.l.length e2) P.ac.ty P.re.kind P.re.u.1 P.re.u.2 (.slice p3 P.re.l.length e3) P.re.ty (.slice pc P.conds.length cc)) 62 (0,0)):=by rw[hw1];exact Qaf (Xa w _) _
 have hB:w1.heap[w.heap.size+1]? =some (.cells (pCell P.forbid (.slice qn P.notes.length dn) P.pr.kind P.pr.u.1 P.pr.u.2 (.slice q1 P.pr.l.length f1) P.pr.ty P.ac.kind P.ac.u.1 P.ac.u.2 (.slice q2 P.ac.l.length f2) P.ac.ty P.re.kind P.re.u.1 P.re.u.2 (.slice q3 P.re.l.length f3) P.re.ty (.slice qc P.conds.length dc)) 62 (0,0)):=by rw[hw1];exact Qah (by simp) _
 clear hw1;have HB1:=Hi B1;have HAB:=Hi (Xc hA hB);have KA:Hid (∀w',Below w1.heap.size w1 w'→w'.heap[w.heap.size]? =some (.cells (pCell P.forbid (.slice pn P.notes.length cn) P.pr.kind P.pr.u.1 P.pr.u.2 (.slice p1 P.pr.l.length e1) P.pr.ty P.ac.kind P.ac.u.1 P.ac.u.2 (.slice p2 P.ac.l.length e2) P.ac.ty P.re.kind P.re.u.1 P.re.u.2 (.slice p3 P.re.l.length e3) P.re.ty (.slice pc P.conds.length cc)) 62 (0,0))):=Hi fun w' h=>Bk h hA
 have KB:Hid (∀w',Below w1.heap.size w1 w'→w'.heap[w.heap.size+1]? =some (.cells (pCell P.forbid (.slice qn P.notes.length dn) P.pr.kind P.pr.u.1 P.pr.u.2 (.slice q1 P.pr.l.length f1) P.pr.ty P.ac.kind P.ac.u.1 P.ac.u.2 (.slice q2 P.ac.l.length f2) P.ac.ty P.re.kind P.re.u.1 P.re.u.2 (.slice q3 P.re.l.length f3) P.re.ty (.slice qc P.conds.length dc)) 62 (0,0))):=Hi fun w' h=>Bk h hB
 have a0:=Qaa (o:=0) hA rfl;have b0:=Qaa (o:=0) hB rfl;have a1:=Qaa (o:=1) hA rfl;have b1:=Qaa (o:=1) hB rfl;have a2:=Qaa (o:=2) hA rfl;have b2:=Qaa (o:=2) hB rfl;have a3:=Qaa (o:=3) hA rfl;have b3:=Qaa (o:=3) hB rfl;have a4:=Qaa (o:=4) hA rfl;have b4:=Qaa (o:=4) hB rfl;have a5:=Qaa (o:=5) hA rfl;have b5:=Qaa (o:=5) hB rfl;have a6:=Qaa (o:=6) hA rfl;have b6:=Qaa (o:=6) hB rfl;have a17:=Qaa (o:=17) hA rfl
 have b17:=Qaa (o:=17) hB rfl;clear hA hB
 go_wp2_with fail
 refine(ssc_c P.pr HB.out.1 w1 U V _ _ (HS1.out.1.ext (S:=fun _=>False) (.below B1) (fun d hd _=>⟨fun h=>h,hd⟩)) (HS1.out.2.ext (S:=fun _=>False) (.below B1) (fun d hd _=>⟨fun h=>h,hd⟩))).mono ?_;rintro e w2⟨rfl,B2⟩;have B12:=B1.trans (B2.mono B1.size);have hA:=KA.out w2 B2;have hB:=KB.out w2 B2;have a7:=Qaa (o:=7) hA rfl;have b7:=Qaa (o:=7) hB rfl;have a8:=Qaa (o:=8) hA rfl;have b8:=Qaa (o:=8) hB rfl
 have a9:=Qaa (o:=9) hA rfl;have b9:=Qaa (o:=9) hB rfl;have a10:=Qaa (o:=10) hA rfl;have b10:=Qaa (o:=10) hB rfl;have a11:=Qaa (o:=11) hA rfl;have b11:=Qaa (o:=11) hB rfl;clear hA hB a0 b0 a1 b1 a2 b2 a3 b3 a4 b4 a5 b5 a6 b6 a17 b17
 go_wp2_with fail
 refine(ssc_c P.ac HB.out.2.1 w2 U V _ _ (HS2.out.1.ext (S:=fun _=>False) (.below B12) (fun d hd _=>⟨fun h=>h,hd⟩)) (HS2.out.2.ext (S:=fun _=>False) (.below B12) (fun d hd _=>⟨fun h=>h,hd⟩))).mono ?_;rintro e w3⟨rfl,B3⟩;have B13:=B12.trans (B3.mono B12.size);have B23:=B2.trans (B3.mono B2.size);have hA:=KA.out w3 B23;have hB:=KB.out w3 B23;have a12:=Qaa (o:=12) hA rfl;have b12:=Qaa (o:=12) hB rfl;have a13:=Qaa (o:=13) hA rfl
 have b13:=Qaa (o:=13) hB rfl;have a14:=Qaa (o:=14) hA rfl;have b14:=Qaa (o:=14) hB rfl;have a15:=Qaa (o:=15) hA rfl;have b15:=Qaa (o:=15) hB rfl;have a16:=Qaa (o:=16) hA rfl;have b16:=Qaa (o:=16) hB rfl;clear hA hB a7 b7 a8 b8 a9 b9 a10 b10 a11 b11 B3 B2 B12
 go_wp2_with fail
 refine(ssc_c P.re HB.out.2.2.1 w3 U V _ _ (HS3.out.1.ext (S:=fun _=>False) (.below B13) (fun d hd _=>⟨fun h=>h,hd⟩)) (HS3.out.2.ext (S:=fun _=>False) (.below B13) (fun d hd _=>⟨fun h=>h,hd⟩))).mono ?_;rintro e w4⟨rfl,B4⟩;have B14:=B23.trans (B4.mono B23.size);have hA:=KA.out w4 B14;have hB:=KB.out w4 B14;have HQ:Hid (SpN w1 w.heap.size (w.heap.size+1) P.notes.length P.conds.length pn qn pc qc cn dn cc dc (.int .i64 0) w4):=Hi ⟨0,rfl,⟨Nat.zero_le _,B14,Qaa (o:=1) hA rfl,Qaa (o:=1) hB rfl⟩,Nat.zero_le _,B14,Qaa (o:=17) hA rfl,Qaa (o:=17) hB rfl⟩
 clear hA hB a12 b12 a13 b13 a14 b14 a15 b15 a16 b16 B1 B13 B23 B4 B14 HS1 HS2 HS3 KA KB HAB
 go_upto_region 4 with(fail)
 go_loopw [7] (fun v7 wr=>SpN w1 w.heap.size (w.heap.size+1) P.notes.length P.conds.length pn qn pc qc cn dn cc dc v7 wr) (fun v7 _=>P.notes.length-(intOf v7).toNat)
 case atStart=>exact HQ.out
 case round =>
  clear HQ;obtain⟨i,rfl,⟨hi,hBw,x1,y1⟩,hC⟩:=hrel;have HC:=Hi hC;have HBI:=Hi hBw;by_cases hlt:i<P.notes.length
  ·obtain⟨⟨s,t⟩,hu⟩:∃u,P.notes[i]? =some u:=⟨P.notes[i],by simp[hlt]⟩
   obtain⟨g1,o1,rfl,_,a1,a2⟩:=((HN.out.1.after HB1.out).after hBw) i _ hu;obtain⟨g2,o2,rfl,_,b1,b2⟩:=((HN.out.2.after HB1.out).after hBw) i _ hu;have HDN:Hid (∀n,SpN w1 w.heap.size (w.heap.size+1) P.notes.length P.conds.length (some ⟨g1,o1,none⟩) (some ⟨g2,o2,none⟩) pc qc cn dn cc dc (.int .i64 ((i:Int)+1)) (wr.drewN n)):=Hi fun n=>⟨i+1,by go_num,⟨by omega,((Ext.below (S:=fun _=>False) HBI.out).drewN n).toBelow (fun _ h=>h.elim) (Xb _),x1,y1⟩,hC.1,((Ext.below (S:=fun _=>False) HBI.out).drewN n).toBelow (fun _ h=>h.elim) (Xb _),hC.2.2.1,hC.2.2.2⟩
   clear hu hBw hC
   go_upto_region 6 with(fail)
   go_quiet (fail)
   go_wp2_with fail
   go_roundw
   case rel=>exact HDN.out _
   case measure=>simp[intOf];omega
  ·obtain rfl:i=P.notes.length:=by omega
   have HQ:Hid (SpC w1 w.heap.size (w.heap.size+1) P.conds.length pc qc cc dc (.int .i64 0) wr):=Hi ⟨0,rfl,hC⟩;clear hC hBw HC HN
   go_upto_region 9 with(fail)
   go_loopw [8] (fun v8 wr=>SpC w1 w.heap.size (w.heap.size+1) P.conds.length pc qc cc dc v8 wr) (fun v8 _=>P.conds.length-(intOf v8).toNat)
   case atStart=>exact HQ.out
   case round =>
    clear HQ HBI;obtain⟨i,rfl,hi,hBw,x1,y1⟩:=hrel;have HBI:=Hi hBw;by_cases hlt:i<P.conds.length
    ·obtain⟨⟨un,x⟩,hu⟩:∃u,P.conds[i]? =some u:=⟨P.conds[i],by simp[hlt]⟩
     have hrow1:=cn_row HCC.out.1.1 HCC.out.1.2 hu;have hrow2:=cn_row HCC.out.2.1 HCC.out.2.2 hu;have B0:=HB1.out.trans (hBw.mono HB1.out.size);have E:=Ext.below (S:=fun _=>False) B0;obtain⟨g1,o1,rfl,_,z1,ds1,px1,c1⟩:=hrow1;obtain⟨g2,o2,rfl,_,z2,ds2,px2,c2⟩:=hrow2;have HSE:=Hi (HB.out.2.2.2 _ (List.mem_of_getElem? hu));have HP:=Hi (Xc (px1.after B0) (px2.after B0));have m1:=E.cell (fun h=>h) z1;have m2:=E.cell (fun h=>h) z2
     have c1':∀j v,ds1[j]? =some v→wr.cell? ⟨g1,o1+i*12+1+j,none⟩=some v:=fun j v h=>E.cell (fun h=>h) (c1 j v h)
     have c2':∀j v,ds2[j]? =some v→wr.cell? ⟨g2,o2+i*12+1+j,none⟩=some v:=fun j v h=>E.cell (fun h=>h) (c2 j v h)
     clear c1 c2 z1 z2 E B0 hBw hu;cases px1 with
     | mk xo xs xv xk xp xl ga gb gc gd ge gf gg _ _ _ _ =>
     cases px2 with
     | mk _ _ _ _ _ _ ha' hb' hc' hd' he' hf' hg' _ _ _ _ =>
     have u0:=c1' 0 _ rfl;have t0:=c2' 0 _ rfl;have u1:=c1' 1 _ rfl;have t1:=c2' 1 _ rfl;have u2:=c1' 2 _ rfl;have t2:=c2' 2 _ rfl;have u3:=c1' 3 _ rfl;have t3:=c2' 3 _ rfl;have u4:=c1' 4 _ rfl;have t4:=c2' 4 _ rfl;have u5:=c1' 5 _ rfl;have t5:=c2' 5 _ rfl;have u6:=c1' 6 _ rfl;have t6:=c2' 6 _ rfl;have u7:=c1' 7 _ rfl;have t7:=c2' 7 _ rfl;have u8:=c1' 8 _ rfl;have t8:=c2' 8 _ rfl;have u9:=c1' 9 _ rfl
     have t9:=c2' 9 _ rfl;have u10:=c1' 10 _ rfl;have t10:=c2' 10 _ rfl;clear c1' c2';rw[Nat.add_zero]at u0 t0
     go_upto_region 11 with(fail)
     refine QaK 27 (by kernel_rfl) (by kernel_rfl) ?_
     repeat still_step
     refine wpStill_nil ?_
     go_wp2_with fail
     refine(HSE.out wr.drew U V _ _ (HP.out.1.ext (S:=fun _=>False) (w':=wr.drew) (Ext.refl _ _).drew (fun d hd _=>⟨fun h=>h,hd⟩)) (HP.out.2.ext (S:=fun _=>False) (w':=wr.drew) (Ext.refl _ _).drew (fun d hd _=>⟨fun h=>h,hd⟩))).mono ?_;rintro e w5⟨rfl,B5⟩;have x1':=(Ext.below (S:=fun _=>False) B5).cell (fun h=>h) (show wr.drew.cell? _=_ from x1);have y1':=(Ext.below (S:=fun _=>False) B5).cell (fun h=>h) (show wr.drew.cell? _=_ from y1)
     have HB5:=Hi (HBI.out.trans ((show Below wr.heap.size wr w5 from⟨B5.os,B5.tape,B5.output,B5.size,B5.block⟩).mono HBI.out.size));clear B5 u0 t0 u1 t1 u2 t2 u3 t3 u4 t4 u5 t5 u6 t6 u7 t7 u8 t8 u9 t9 u10 t10 x1 y1 m1 m2
     go_wp2_with fail
     go_roundw
     case rel=>exact⟨i+1,by go_num,by omega,HB5.out,x1',y1'⟩
     case measure=>simp[intOf];omega
    ·obtain rfl:i=P.conds.length:=by omega
     clear hBw
     go_wp2_with fail
     go_ret;exact⟨rfl,HB1.out.trans (HBI.out.mono HB1.out.size)⟩
structure SpOk(P:PPol):Prop where
 n:P.notes.length≤1000000
 pr:P.pr.l.length≤1000000
 ac:P.ac.l.length≤1000000
 re:P.re.l.length≤1000000
 c:P.conds.length≤1000000
 x:∀c∈P.conds,SeOk c.2
theorem QiE{P:Program}{ops:Array Oper}{w:World}{Q:Act→Prop}{a:Act}{o:Oper}{rest:List Oper}(hg:o.guard=none)(t:TypeId)(x:Operand)(ho:o.op=.load t x)(p:Value)(hx:a.eval x=p)(v:Value)(hr:(Instr.loadAt t p).run P w=.ok v w)(h:wpStill P ops w Q rest (a.put o.dst v)):wpStill P ops w Q (o::rest) a:=by
 refine wpStill_step fun K hK=>?_
 rw[if_pos (by simp[Region.wanted,hg])];unfold Oper.still;simp only[execOp,ho,hx,Sem.run_bind,hr,Result.andThen_ok,Sem.run_pure,Oper.stillUpon_value];exact hK _ h
theorem ldP{w:World}{b o:Nat}{ds:List Value}(hl:ds.length=18)(h:∀j v,ds[j]? =some v→w.cell? ⟨b,o+j,none⟩=some v):(Instr.loadAt 62 (.pointer (some ⟨b,o,none⟩))).run prog w.drew=.ok (.agg ds.toArray) w.drew:=by
 have h2:=run_loadCells_list (P:=prog) (w:=w.drew) ⟨b,o,none⟩ ds (fun j v hv=>by
  have:=h j v hv;by_cases h0:j=0
  ·subst h0;simpa [Addr.add]using this
  ·simpa [Addr.add,h0]using this)
 rw[hl]at h2;show(loadVar 62 ⟨b,o,none⟩).run prog w.drew=_;have e1:(isAgg 62).run prog w.drew=.ok true w.drew:=by kernel_rfl
 have e2:(sizeOf 62).run prog w.drew=.ok 18 w.drew:=by kernel_rfl
 simp only[loadVar,Sem.run_bind,e1,e2,Result.andThen_ok,Sem.run_pure,if_true,h2]
def SpsRl(w0:World)(n:Nat)(v7:Value)(wr:World):Prop:=∃i,v7=.int .i64 ((i:Nat):Int)∧i≤n∧Below w0.heap.size w0 wr
theorem sps_c(l:List PPol)(hn:l.length≤1000000)(hok:∀P∈l,SpOk P)(w:World)(U V:Nat→Prop)(p q:Option Addr)(c d:Nat)(ha:PosIs w U p l)(hb:PosIs w V q l) :
  Calls prog 17 #[.slice p l.length c,.slice q l.length d,.func (.func 12) #[] #[]] w (SeP w):=by
 have HA:=Hi (Xc ha hb);have HOK:=Hi hok;clear ha hb hok;go_enter func17,ntmps17
 go_upto_region 4 with(fail)
 have HQ:Hid (SpsRl w l.length (.int .i64 0) w):=Hi ⟨0,rfl,Nat.zero_le _,.refl _ _⟩
 go_loopw [7] (fun v7 wr=>SpsRl w l.length v7 wr) (fun v7 _=>l.length-(intOf v7).toNat)
 case atStart=>exact HQ.out
 case round =>
  clear HQ;obtain⟨i,rfl,hi,hBw⟩:=hrel;have HBI:=Hi hBw;by_cases hlt:i<l.length
  ·obtain⟨P,hP⟩:∃P,l[i]? =some P:=⟨l[i],by simp[hlt]⟩
   obtain⟨g1,o1,rfl,_,ds1,px1,c1⟩:=Qi2 HA.out.1 hP;obtain⟨g2,o2,rfl,_,ds2,px2,c2⟩:=Qi2 HA.out.2 hP;have E:=Ext.below (S:=fun _=>False) hBw;have hk:=HOK.out P (List.mem_of_getElem? hP);have HSE:=Hi (fun w' cs ds (h1:PpIs w' U cs P)(h2:PpIs w' V ds P)=>sp_c P hk.n hk.pr hk.ac hk.re hk.c hk.x w' U V cs ds h1 h2);have HP:=Hi (Xc (px1.after hBw) (px2.after hBw));have c1':∀j v,ds1[j]? =some v→wr.cell? ⟨g1,o1+i*18+j,none⟩=some v:=fun j v h=>E.cell (fun h=>h) (c1 j v h)
   have c2':∀j v,ds2[j]? =some v→wr.cell? ⟨g2,o2+i*18+j,none⟩=some v:=fun j v h=>E.cell (fun h=>h) (c2 j v h)
   clear c1 c2 E hBw hP hk;have L1:=Hi (ldP (w:=wr) px1.len c1');have L2:=Hi (ldP (w:=wr) px2.len c2');clear c1' c2' px1 px2
   go_upto_region 6 with(fail)
   refine QaK 9 (by kernel_rfl) (by kernel_rfl) ?_
   still_step
   still_step
   still_step
   refine QiE rfl 62 (.tmp 21) rfl _ rfl _ L1.out ?_
   still_step
   still_step
   still_step
   refine QiE rfl 62 (.tmp 25) rfl _ rfl _ L2.out ?_
   still_step
   refine wpStill_nil ?_
   go_wp2_with fail
   refine(HSE.out wr.drew _ _ (HP.out.1.after (w':=wr.drew) ⟨rfl,rfl,rfl,Xb _,fun _ _=>rfl⟩) (HP.out.2.after (w':=wr.drew) ⟨rfl,rfl,rfl,Xb _,fun _ _=>rfl⟩)).mono ?_;rintro e w5⟨rfl,B5⟩;have HB5:=Hi (HBI.out.trans ((show Below wr.heap.size wr w5 from⟨B5.os,B5.tape,B5.output,B5.size,B5.block⟩).mono HBI.out.size));clear B5
   go_wp2_with fail
   go_roundw
   case rel=>exact⟨i+1,by go_num,by omega,HB5.out⟩
   case measure=>simp[intOf];omega
  ·obtain rfl:i=l.length:=by omega
   clear hBw
   go_wp2_with fail
   go_ret;exact⟨rfl,HBI.out⟩
end Go.Proofs.Pg
namespace Go.Proofs.Pg
open Go.RowKit
theorem Qiw{l:List PEx}(h:∀a∈l,SeOk a)(hl:l.length≤29000000)(op:Int)(s:ByteArray)(v:PV)(keys pieces:List ByteArray)(hk:keys.length≤29000000)(hp:pieces.length≤29000000):SeOk (.mk op s v keys pieces l) :=
 se_a op s v keys pieces l hk hp hl trivial h
theorem QiJ(l:List (Bool×ByteArray)):(QaN l).length≤l.length+1:=by
 unfold QaN;rw[List.length_append,List.length_map];split<;>simp<;>(try split)<;>simp<;>omega
theorem seOk_of{x:Ex}(h:OkE x):SeOk (toP x):=by
 induction h with
 | val v=>rw[toP];exact Qiw (fun a h=>by cases h) (by decide) _ _ _ _ _ (by decide) (by decide)
 | var s=>rw[toP];exact Qiw (fun a h=>by cases h) (by decide) _ _ _ _ _ (by decide) (by decide)
 | ite _ _ _ i1 i2 i3=>rw[toP];exact Qiw (fun y hy=>by simp at hy;rcases hy with rfl | rfl | rfl<;>assumption) (by simp) _ _ _ _ _ (by decide) (by decide)
 | bin _ _ _ i1 i2=>rw[toP];exact Qiw (fun y hy=>by simp at hy;rcases hy with rfl | rfl<;>assumption) (by simp) _ _ _ _ _ (by decide) (by decide)
 | una _ _ i1=>rw[toP];exact Qiw (fun y hy=>by simp at hy;subst hy;assumption) (by simp) _ _ _ _ _ (by decide) (by decide)
 | sop _ _ i1=>rw[toP];exact Qiw (fun y hy=>by simp at hy;subst hy;assumption) (by simp) _ _ _ _ _ (by decide) (by decide)
 | isIn _ _ i1 i2=>rw[toP];exact Qiw (fun y hy=>by simp at hy;rcases hy with rfl | rfl<;>assumption) (by simp) _ _ _ _ _ (by decide) (by decide)
 | @like a p hp _ i1=>rw[toP];exact Qiw (fun y hy=>by simp at hy;subst hy;assumption) (by simp) _ _ _ _ _ (by decide) (by have:=QiJ p;omega)
 | call hl _ ih=>rw[toP,Qej];exact Qiw (fun y hy=>by obtain⟨a,ha,rfl⟩:=List.mem_map.1 hy;exact ih a ha) (by rw[List.length_map];omega) _ _ _ _ _ (by decide) (by decide)
 | set hl _ ih=>rw[toP,Qej];exact Qiw (fun y hy=>by obtain⟨a,ha,rfl⟩:=List.mem_map.1 hy;exact ih a ha) (by rw[List.length_map];omega) _ _ _ _ _ (by decide) (by decide)
 | recd hl _ ih=>rw[toP,QfA];exact Qiw (fun y hy=>by obtain⟨a,ha,rfl⟩:=List.mem_map.1 hy;exact ih a ha) (by rw[List.length_map];omega) _ _ _ _ _ (by rw[List.length_map];omega) (by decide)
theorem QiW{s:Scp}(h:∀l,s=.inSet l→l.length≤1000000):(toSc s).l.length≤1000000:=by
 cases s with
 | inSet l=>exact h l rfl
 | _=>exact Nat.zero_le _
theorem spOk_of{P:Pol}(h:OkPol P):SpOk (Qb1 P) where
 n:=h.notes
 pr:=QiW h.pr
 ac:=QiW h.ac
 re:=QiW h.re
 c:=by show(P.cs.map _).length≤_;rw[List.length_map];exact h.conds
 x:=fun c hc=>by
  obtain⟨a,ha,rfl⟩:=List.mem_map.1 hc;exact seOk_of (h.okE a ha)
theorem PosIs.after{w w':World}{U:Nat→Prop}{p:Option Addr}{l:List PPol}(h:PosIs w U p l)(hb:Below w.heap.size w w'):PosIs w' U p l:=by
 obtain⟨cs,h1,h2⟩:=h;exact⟨cs,h1.extT (S:=fun _=>False) (.below hb) (fun _ _ _ _ h=>h),fun i a hi=>(h2 i a hi).after hb⟩
end Go.Proofs.Pg
