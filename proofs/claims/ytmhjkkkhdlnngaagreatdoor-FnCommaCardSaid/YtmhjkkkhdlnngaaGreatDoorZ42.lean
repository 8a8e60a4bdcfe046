/- FnComma: a last comma changes nothing; for every world. Part 42. -/
import Derived.Test.YtmhjkkkhdlnngaaGreatDoorZ41
set_option linter.all false
set_option maxRecDepth 100000
set_option maxHeartbeats 40000000
namespace Go.Proofs.Pg
open Go.RowKit
attribute [local go_sem] Oper.semAt_some
def ΦE3(A B:Nat)(op kd nn:Int)(vs vt:ByteArray)(pk qk:Option Addr)(nk ck dk:Nat):Nat→Value→Prop
 | 0,v=>v=.pointer (some ⟨A,0,none⟩)
 | 1,v=>v=.int .i64 op
 | 2,v=>v=.bool (decide (op=1))
 | 3,v=>v=.bool (decide (op=1))
 | 4,v=>op=1→v=.pointer (some ⟨A,2,none⟩)
 | 5,v=>op=1→v=.agg #[.int .i64 kd,.int .i64 nn,.string vs,.string vt,.slice none 0 0,.slice none 0 0]
 | 6,v=>op=1→v=.pointer (some ⟨B,2,none⟩)
 | 7,v=>op=1→v=.agg #[.int .i64 kd,.int .i64 nn,.string vs,.string vt,.slice none 0 0,.slice none 0 0]
 | 8,v=>op=1→v=.bool true
 | 9,v=>op=1→v=.bool false
 | 10,v=>v=.bool false
 | 11,v=>v=.bool false
 | 12,v=>v=.pointer (some ⟨A,0,none⟩)
 | 13,v=>v=.int .i64 op
 | 14,v=>v=.bool (decide (op=30))
 | 15,v=>v=.bool (decide (op=30))
 | 16,v=>op=30→v=.pointer (some ⟨A,8,none⟩)
 | 17,v=>op=30→v=.slice pk nk ck
 | 18,v=>op=30→v=.pointer (some ⟨B,8,none⟩)
 | 19,v=>op=30→v=.slice qk nk dk
 | 20,v=>op=30→v=.bool true
 | 21,v=>op=30→v=.bool false
 | 22,v=>v=.bool false
 | 23,v=>v=.bool false
 | 24,v=>v=.bool false
 | 25,v=>v=.pointer (some ⟨A,0,none⟩)
 | 26,v=>v=.int .i64 op
 | 27,v=>v=.bool false
 | 28,v=>v=.bool false
 | 29,v=>False→v=.bool false
 | 30,v=>False→v=.bool false
 | 31,v=>False→v=.bool false
 | 32,v=>False→v=.bool false
 | 33,v=>False→v=.bool false
 | 34,v=>False→v=.bool false
 | 35,v=>False→v=.bool false
 | 36,v=>False→v=.bool false
 | 37,v=>v=.bool false
 | 38,v=>v=.bool false
 | _,_=>True
theorem Qik(w:World)(b:Nat):(Instr.fieldAt 33 (.pointer (some ⟨b,0,none⟩)) 0).run Tryz.prog w=.ok (.pointer (some ⟨b,0,none⟩)) w:=by kernel_rfl
theorem fd33_2(w:World)(b:Nat):(Instr.fieldAt 33 (.pointer (some ⟨b,0,none⟩)) 2).run Tryz.prog w=.ok (.pointer (some ⟨b,2,none⟩)) w:=by kernel_rfl
theorem fd33_3(w:World)(b:Nat):(Instr.fieldAt 33 (.pointer (some ⟨b,0,none⟩)) 3).run Tryz.prog w=.ok (.pointer (some ⟨b,8,none⟩)) w:=by kernel_rfl
theorem gno{o:Oper}{y:Nat→Option Bool}{X Y:Prop}(h:o.guard=none)(hx:X):if Region.wanted o y=true then X else Y:=by
 rw[if_pos (by simp[Region.wanted,h])];exact hx
theorem gyes{o:Oper}{y:Nat→Option Bool}{X Y:Prop}{c b:Bool}(hw:Region.wanted o y=(c==b))(h:(c==b)=true)(hx:X):if Region.wanted o y=true then X else Y:=by
 rw[if_pos (hw.trans h)];exact hx
theorem gnot{o:Oper}{y:Nat→Option Bool}{X Y:Prop}{c b:Bool}(hw:Region.wanted o y=(c==b))(h:(c==b)=false)(hx:Y):if Region.wanted o y=true then X else Y:=by
 rw[if_neg (by rw[hw,h];simp)];exact hx
theorem ldi3(w:World)(b o:Nat)(n:Int)(h:w.cell? ⟨b,o,none⟩=some (.int .i64 n)):(Instr.loadAt 3 (.pointer (some ⟨b,o,none⟩))).run Tryz.prog w=.ok (.int .i64 n) w:=by go_simp
theorem ld30(w:World)(b:Nat)(kd nn:Int)(vs vt:ByteArray)(h2:w.cell? ⟨b,2,none⟩=some (.int .i64 kd))(h3:w.cell? ⟨b,3,none⟩=some (.int .i64 nn))(h4:w.cell? ⟨b,4,none⟩=some (.string vs))(h5:w.cell? ⟨b,5,none⟩=some (.string vt))(h6:w.cell? ⟨b,6,none⟩=some (.slice none 0 0))(h7:w.cell? ⟨b,7,none⟩=some (.slice none 0 0)) :
  (Instr.loadAt 30 (.pointer (some ⟨b,2,none⟩))).run Tryz.prog w=.ok (.agg #[.int .i64 kd,.int .i64 nn,.string vs,.string vt,.slice none 0 0,.slice none 0 0]) w:=by go_simp
theorem eq3(w:World)(X Y:Operand)(x y:Int):(do eqGuard .eql 3 X Y (.int .i64 x) (.int .i64 y);binOp .eql 3 (.int .i64 x) (.int .i64 y):Sem Value).run Tryz.prog w=.ok (.bool (decide (x=y))) w:=by
 go_simp;rfl
theorem se_g(op:Int)(s:ByteArray)(v:PV)(keys pieces:List ByteArray)(l:List PEx)(hk:keys.length≤999999)(hl:l.length≤999999)(hop:op≠15)(ih:∀a∈l,SeOk a):SeOk (.mk op s v keys pieces l):=by
 intro w U V cs ds ha hb;have HOP:=Hi hop;clear hop;cases ha with
 | mk _ _ _ _ _ _ pk pp pl ck cp cl ca ak ap al ah =>
 cases hb with
 | mk _ _ _ _ _ _ qk qp ql dk dp dl cb bk bp bl bh =>
 obtain⟨kd,nn,vs,vt⟩:=v;go_enter Tryz.func12,Tryz.ntmps12
 go_upto_region 1 with(fail)
 refine QaB fun w1 hw1=>?_
 have B1:Below w.heap.size w w1:=by rw[hw1];exact(Qab w _).alloc (by simp) _
 have hA:w1.heap[w.heap.size]? =some (.cells #[.int .i64 op,.string s,.int .i64 kd,.int .i64 nn,.string vs,.string vt,.slice none 0 0,.slice none 0 0,.slice pk keys.length ck,.slice pp pieces.length cp,.slice pl l.length cl] 33 (0,0)):=by rw[hw1];exact Qaf (heap_alloc_new w _) _
 have hB:w1.heap[w.heap.size+1]? =some (.cells #[.int .i64 op,.string s,.int .i64 kd,.int .i64 nn,.string vs,.string vt,.slice none 0 0,.slice none 0 0,.slice qk keys.length dk,.slice qp pieces.length dp,.slice ql l.length dl] 33 (0,0)):=by rw[hw1];exact Qah (by simp) _
 clear hw1;have HB1:=Hi B1;have HAB:=Hi (And.intro hA hB);have HKA:=Hi (ak.ext (S:=fun _=>False) (.below B1) (fun d hd _=>⟨fun h=>h,hd⟩)).strings;have HKB:=Hi (bk.ext (S:=fun _=>False) (.below B1) (fun d hd _=>⟨fun h=>h,hd⟩)).strings;have HLA:=Hi (And.intro (al.ext (S:=fun _=>False) (.below B1) (fun d hd _=>⟨fun h=>h,hd⟩)) (fun i a hi=>(ah i a hi).after B1));have HLB:=Hi (And.intro (bl.ext (S:=fun _=>False) (.below B1) (fun d hd _=>⟨fun h=>h,hd⟩)) (fun i a hi=>(bh i a hi).after B1))
 clear ak bk al bl ah bh ap bp B1;obtain⟨a0,a1⟩:=Cl2 hA rfl rfl;have a10:=Qaa (o:=10) hA rfl;obtain⟨b0,b1⟩:=Cl2 hB rfl rfl;have b10:=Qaa (o:=10) hB rfl;clear hA hB;have HIH:=Hi ih;clear ih
 go_wp2_with fail
 refine(named_c op _).mono ?_;rintro e w2⟨B2,b,rfl,hbb⟩;have E2:=Ext.below (S:=fun _=>False) B2;have HA2:=Hi (E2.heap (fun h=>h) HAB.out.1);have HB2:=Hi (E2.heap (fun h=>h) HAB.out.2);have HK2:=Hi B2;replace a0:=Qaa (o:=0) HA2.out rfl;replace b0:=Qaa (o:=0) HB2.out rfl;replace a1:=Qaa (o:=1) HA2.out rfl;replace b1:=Qaa (o:=1) HB2.out rfl;clear E2 B2 a10 b10;have SV:=Hi (sv_c kd nn vs vt);have HD2:Hid (Below w1.heap.size w1 w2.drew):=Hi ⟨HK2.out.os,HK2.out.tape,HK2.out.output,HK2.out.size,HK2.out.block⟩
 have SS:Hid (∀w',Below w1.heap.size w1 w'→Calls Tryz.prog 33 #[.slice pk keys.length ck,.slice qk keys.length dk] w' (fun e w''=>e=.returned (.bool true)∧Below w'.heap.size w' w'')):=Hi (fun w' hB=>ss_c keys (by omega) w' pk qk ck dk (fun i s h=>by
  obtain⟨b,o,e,hlt,hc⟩:=HKA.out i s h;exact⟨b,o,e,Nat.lt_of_lt_of_le hlt hB.size,(Ext.below (S:=fun _=>False) hB).cell (fun h=>h) hc⟩) (fun i s h=>by
  obtain⟨b,o,e,hlt,hc⟩:=HKB.out i s h;exact⟨b,o,e,Nat.lt_of_lt_of_le hlt hB.size,(Ext.below (S:=fun _=>False) hB).cell (fun h=>h) hc⟩))
 have h15:=HOP.out;have hz2:w1.heap.size≤w2.heap.size:=HK2.out.size;have hE0:Below w1.heap.size w1 w2:=HK2.out;have hCA:∀w6,Below w1.heap.size w2 w6→w6.heap[w.heap.size]? =some (.cells #[.int .i64 op,.string s,.int .i64 kd,.int .i64 nn,.string vs,.string vt,.slice none 0 0,.slice none 0 0,.slice pk keys.length ck,.slice pp pieces.length cp,.slice pl l.length cl] 33 (0,0)):=fun w6 h=>(h.block _ (Qad HAB.out.1)).trans HA2.out
 have hCB:∀w6,Below w1.heap.size w2 w6→w6.heap[w.heap.size+1]? =some (.cells #[.int .i64 op,.string s,.int .i64 kd,.int .i64 nn,.string vs,.string vt,.slice none 0 0,.slice none 0 0,.slice qk keys.length dk,.slice qp pieces.length dp,.slice ql l.length dl] 33 (0,0)):=fun w6 h=>(h.block _ (Qad HAB.out.2)).trans HB2.out
 have HCC:=Hi (And.intro hCA hCB);clear hCA hCB;have HZ:=Hi (And.intro hz2 (And.intro hE0 h15));clear hz2 hE0 h15 hbb;cases b
 all_goals
  go_upto_region 3 with(fail)
  obtain⟨hCA,hCB⟩:=HCC.out;obtain⟨hz2,hE0,h15⟩:=HZ.out;refine Qfs (by kernel_rfl) (by kernel_rfl) (Below w1.heap.size) (fun j v _=>ΦE3 w.heap.size (w.heap.size+1) op kd nn vs vt pk qk keys.length ck dk j v) ⟨rfl,rfl,rfl,Nat.le_refl _,fun _ _=>rfl⟩ (fun _=>.refl _ _) (fun _ _ _ h k=>h.trans k) (fun _ _ _ _ _ h=>h) ?hop ?hdone
  case hdone =>
   intro a6 w6 hF;have h70:a6.tmps.getD 70 undef=.bool false:=hF.facts 38 _ rfl rfl;have hE6:=hF.ext;obtain⟨fs,hfr,_⟩:=hF.frame;clear hF hCA hCB;have h70f:fs 70=.bool false:=by
    subst hfr;rw[show Qbi _=[32,33,34,35,36,37,38,39,40,41,42,43,44,45,46,47,48,49,50,51,52,53,54,55,56,57,58,59,60,61,62,63,64,65,66,67,68,69,70]from rfl]at h70;simp (config:={decide:=true}) only[List.mapIdx_toArray,List.mapIdx_cons,List.mapIdx_nil,Nat.zero_add,Nat.reduceAdd,if_true,if_false]at h70;exact h70
   clear h70;subst hfr;rw[show Qbi _=[32,33,34,35,36,37,38,39,40,41,42,43,44,45,46,47,48,49,50,51,52,53,54,55,56,57,58,59,60,61,62,63,64,65,66,67,68,69,70]from rfl];simp (config:={decide:=true}) only[List.mapIdx_toArray,List.mapIdx_cons,List.mapIdx_nil,Nat.zero_add,Nat.reduceAdd,if_true,if_false,h70f];clear h70f;have BW:=HZ.out.2.1.trans hE6;have E3:=Ext.below (S:=fun _=>False) BW;have HA3:=Hi (E3.heap (fun h=>h) HAB.out.1)
   have HB3:=Hi (E3.heap (fun h=>h) HAB.out.2);have HBW:=Hi BW;clear E3 BW hE6 a0 b0 a1 b1
   go_upto_region 6 with(fail)
   have HQ:Hid (SeRl w1 l.length w.heap.size (w.heap.size+1) pl ql cl dl (.int .i64 0) w6):=Hi ⟨0,rfl,Nat.zero_le _,HBW.out,Qaa (o:=10) HA3.out rfl,Qaa (o:=10) HB3.out rfl⟩
   go_loopw [5] (fun v5 wr=>SeRl w1 l.length w.heap.size (w.heap.size+1) pl ql cl dl v5 wr) (fun v5 _=>l.length-(intOf v5).toNat)
   case atStart=>exact HQ.out
   case round =>
    clear HQ HA3 HB3 HBW SV SS HD2 HKA HKB;obtain⟨i,rfl,hi,hB,q10,r10⟩:=hrel;by_cases hlt:i<l.length
    ·obtain⟨a,ha⟩:∃a,l[i]? =some a:=⟨l[i],by simp[hlt]⟩
     have hma:=List.mem_of_getElem? ha;have E:=Ext.below (S:=fun _=>False) hB;obtain⟨b1,o1,rfl,hb1,ds1,p1,c1⟩:=px_row HLA.out.1 HLA.out.2 ha;obtain⟨b2,o2,rfl,hb2,ds2,p2,c2⟩:=px_row HLB.out.1 HLB.out.2 ha;have p1':=p1.after hB;have p2':=p2.after hB;have c1':∀j v,ds1[j]? =some v→wr.cell? ⟨b1,o1+i*11+j,none⟩=some v:=fun j v h=>E.cell (fun h=>h) (c1 j v h)
     have c2':∀j v,ds2[j]? =some v→wr.cell? ⟨b2,o2+i*11+j,none⟩=some v:=fun j v h=>E.cell (fun h=>h) (c2 j v h)
     have HSE:=Hi (HIH.out a hma);have HBI:=Hi hB;have HP:=Hi (And.intro p1' p2');clear c1 c2 p1 p2 E hB ha hma HIH;cases p1' with
     | mk xo xs xv xk xp xl ga gb gc gd ge gf gg _ _ _ _ =>
     cases p2' with
     | mk _ _ _ _ _ _ ha' hb' hc' hd' he' hf' hg' _ _ _ _ =>
     have u0:=c1' 0 _ rfl;have u1:=c1' 1 _ rfl;have u2:=c1' 2 _ rfl;have u3:=c1' 3 _ rfl;have u4:=c1' 4 _ rfl;have u5:=c1' 5 _ rfl;have u6:=c1' 6 _ rfl;have u7:=c1' 7 _ rfl;have u8:=c1' 8 _ rfl;have u9:=c1' 9 _ rfl;have u10:=c1' 10 _ rfl;have t0:=c2' 0 _ rfl;have t1:=c2' 1 _ rfl;have t2:=c2' 2 _ rfl;have t3:=c2' 3 _ rfl;have t4:=c2' 4 _ rfl;have t5:=c2' 5 _ rfl;have t6:=c2' 6 _ rfl;have t7:=c2' 7 _ rfl
     have t8:=c2' 8 _ rfl;have t9:=c2' 9 _ rfl;have t10:=c2' 10 _ rfl;clear c1' c2';rw[Nat.add_zero]at u0 t0
     go_upto_region 8 with(fail)
     refine QaK 10 (by kernel_rfl) (by kernel_rfl) ?_
     repeat still_step
     refine wpStill_nil ?_
     go_wp2_with fail
     refine(HSE.out wr.drew U V _ _ (HP.out.1.ext (S:=fun _=>False) (w':=wr.drew) (Ext.refl _ _).drew (fun d hd _=>⟨fun h=>h,hd⟩)) (HP.out.2.ext (S:=fun _=>False) (w':=wr.drew) (Ext.refl _ _).drew (fun d hd _=>⟨fun h=>h,hd⟩))).mono ?_;rintro e w5⟨rfl,B5⟩;have q10':=(Ext.below (S:=fun _=>False) B5).cell (fun h=>h) (show wr.drew.cell? _=_ from q10);have r10':=(Ext.below (S:=fun _=>False) B5).cell (fun h=>h) (show wr.drew.cell? _=_ from r10)
     have HB5:=Hi (HBI.out.trans ((show Below wr.heap.size wr w5 from⟨B5.os,B5.tape,B5.output,B5.size,B5.block⟩).mono HBI.out.size));clear B5 u0 u1 u2 u3 u4 u5 u6 u7 u8 u9 u10 t0 t1 t2 t3 t4 t5 t6 t7 t8 t9 t10 q10 r10
     go_wp2_with fail
     go_roundw
     case rel=>exact⟨i+1,by go_num,by omega,HB5.out,q10',r10'⟩
     case measure=>simp[intOf];omega
    ·obtain rfl:i=l.length:=by omega
     have HBI:=Hi hB;clear hB
     go_wp2_with fail
     go_ret;exact⟨rfl,HB1.out.trans (HBI.out.mono HB1.out.size)⟩
  case hop =>
   have hA0:Value.pointer (some ⟨w.heap.size,0,none⟩)=.pointer (some ⟨w.heap.size,0,none⟩):=rfl;have hB0:Value.pointer (some ⟨w.heap.size+1,0,none⟩)=.pointer (some ⟨w.heap.size+1,0,none⟩):=rfl;intro j o hi
   match j,hi with
   | 0,hi =>
    obtain rfl:=Option.some.inj hi;intro a w6 hE hoth hpre;refine gno rfl ?_;exact Qaw 33 (.tmp 2) 0 rfl _ ((hoth 2 (by decide)).trans hA0) _ (Qik w6 _) ⟨.refl _ _,_,rfl,rfl⟩
   | 1,hi =>
    obtain rfl:=Option.some.inj hi;intro a w6 hE hoth hpre;have g0:=hpre {on:=0,ground:=.data} (by simp) rfl _ rfl;refine gno rfl ?_;exact QaO 3 (.tmp 32) rfl _ (show a.tmps.getD 32 undef=.pointer (some ⟨w.heap.size,0,none⟩)from g0) _ (ldi3 w6 _ _ _ (Qaa (o:=0) (hCA w6 hE) rfl)) ⟨.refl _ _,_,rfl,rfl⟩
   | 2,hi =>
    obtain rfl:=Option.some.inj hi;intro a w6 hE hoth hpre;have g1:=hpre {on:=1,ground:=.data} (by simp) rfl _ rfl;refine gno rfl ?_;exact QcI .eql 3 3 (.tmp 33) (.const (.int .i64 1)) rfl _ _ (show a.tmps.getD 33 undef=.int .i64 op from g1) rfl _ (eq3 w6 _ _ op 1) ⟨.refl _ _,_,rfl,rfl⟩
   | 3,hi =>
    obtain rfl:=Option.some.inj hi;intro a w6 hE hoth hpre;have g2:=hpre {on:=2,ground:=.data} (by simp) rfl _ rfl;refine gno rfl ?_;exact Qb5 (.tmp 34) rfl _ (show a.tmps.getD 34 undef=.bool (decide (op=1))from g2) ⟨.refl _ _,_,rfl,rfl⟩
   | 4,hi =>
    obtain rfl:=Option.some.inj hi;intro a w6 hE hoth hpre;have g3:=hpre {on:=3,ground:=.guard} (by simp) rfl _ rfl;by_cases hc:op=1
    ·refine gyes (Qas (g:=3) (b:=true) (d:=35) rfl rfl rfl (show a.tmps.getD 35 undef=.bool (decide (op=1))from g3)) (by simp[hc]) ?_
     exact Qaw 33 (.tmp 2) 2 rfl _ ((hoth 2 (by decide)).trans hA0) _ (fd33_2 w6 _) ⟨.refl _ _,_,rfl,fun _=>rfl⟩
    ·exact gnot (Qas (g:=3) (b:=true) (d:=35) rfl rfl rfl (show a.tmps.getD 35 undef=.bool (decide (op=1))from g3)) (by simp[hc]) fun h=>absurd h hc
   | 5,hi =>
    obtain rfl:=Option.some.inj hi;intro a w6 hE hoth hpre;have g4:=hpre {on:=4,ground:=.data} (by simp) rfl _ rfl;have g3:=hpre {on:=3,ground:=.guard} (by simp) rfl _ rfl;by_cases hc:op=1
    ·refine gyes (Qas (g:=3) (b:=true) (d:=35) rfl rfl rfl (show a.tmps.getD 35 undef=.bool (decide (op=1))from g3)) (by simp[hc]) ?_
     exact QaO 30 (.tmp 36) rfl _ (show a.tmps.getD 36 undef=.pointer (some ⟨w.heap.size,2,none⟩)from(g4 hc)) _ (ld30 w6 _ kd nn vs vt (Qaa (o:=2) (hCA w6 hE) rfl) (Qaa (o:=3) (hCA w6 hE) rfl) (Qaa (o:=4) (hCA w6 hE) rfl) (Qaa (o:=5) (hCA w6 hE) rfl) (Qaa (o:=6) (hCA w6 hE) rfl) (Qaa (o:=7) (hCA w6 hE) rfl)) ⟨.refl _ _,_,rfl,fun _=>rfl⟩
    ·exact gnot (Qas (g:=3) (b:=true) (d:=35) rfl rfl rfl (show a.tmps.getD 35 undef=.bool (decide (op=1))from g3)) (by simp[hc]) fun h=>absurd h hc
   | 6,hi =>
    obtain rfl:=Option.some.inj hi;intro a w6 hE hoth hpre;have g3:=hpre {on:=3,ground:=.guard} (by simp) rfl _ rfl;by_cases hc:op=1
    ·refine gyes (Qas (g:=3) (b:=true) (d:=35) rfl rfl rfl (show a.tmps.getD 35 undef=.bool (decide (op=1))from g3)) (by simp[hc]) ?_
     exact Qaw 33 (.tmp 3) 2 rfl _ ((hoth 3 (by decide)).trans hB0) _ (fd33_2 w6 _) ⟨.refl _ _,_,rfl,fun _=>rfl⟩
    ·exact gnot (Qas (g:=3) (b:=true) (d:=35) rfl rfl rfl (show a.tmps.getD 35 undef=.bool (decide (op=1))from g3)) (by simp[hc]) fun h=>absurd h hc
   | 7,hi =>
    obtain rfl:=Option.some.inj hi;intro a w6 hE hoth hpre;have g6:=hpre {on:=6,ground:=.data} (by simp) rfl _ rfl;have g3:=hpre {on:=3,ground:=.guard} (by simp) rfl _ rfl;by_cases hc:op=1
    ·refine gyes (Qas (g:=3) (b:=true) (d:=35) rfl rfl rfl (show a.tmps.getD 35 undef=.bool (decide (op=1))from g3)) (by simp[hc]) ?_
     exact QaO 30 (.tmp 38) rfl _ (show a.tmps.getD 38 undef=.pointer (some ⟨w.heap.size+1,2,none⟩)from(g6 hc)) _ (ld30 w6 _ kd nn vs vt (Qaa (o:=2) (hCB w6 hE) rfl) (Qaa (o:=3) (hCB w6 hE) rfl) (Qaa (o:=4) (hCB w6 hE) rfl) (Qaa (o:=5) (hCB w6 hE) rfl) (Qaa (o:=6) (hCB w6 hE) rfl) (Qaa (o:=7) (hCB w6 hE) rfl)) ⟨.refl _ _,_,rfl,fun _=>rfl⟩
    ·exact gnot (Qas (g:=3) (b:=true) (d:=35) rfl rfl rfl (show a.tmps.getD 35 undef=.bool (decide (op=1))from g3)) (by simp[hc]) fun h=>absurd h hc
   | 8,hi =>
    obtain rfl:=Option.some.inj hi;intro a w6 hE hoth hpre;have g5:=hpre {on:=5,ground:=.data} (by simp) rfl _ rfl;have g7:=hpre {on:=7,ground:=.data} (by simp) rfl _ rfl;have g3:=hpre {on:=3,ground:=.chain} (by simp) rfl _ rfl;by_cases hc:op=1
    ·refine gyes (Qas (g:=3) (b:=true) (d:=35) rfl rfl rfl (show a.tmps.getD 35 undef=.bool (decide (op=1))from g3)) (by simp[hc]) ?_
     refine Qcx 32 #[.tmp 37,.tmp 39] #[30,30] rfl Tryz.f32 Tryz.func32 rfl rfl [.agg #[.int .i64 kd,.int .i64 nn,.string vs,.string vt,.slice none 0 0,.slice none 0 0],.agg #[.int .i64 kd,.int .i64 nn,.string vs,.string vt,.slice none 0 0,.slice none 0 0]] ?_ (fun v w'=>v=.bool true∧Below w6.heap.size w6 w') ((SV.out w6).mono fun e w' h=>⟨_,h.1,rfl,h.2⟩) ?_
     ·show [a.tmps.getD 37 undef,a.tmps.getD 39 undef]=_
      rw[(show a.tmps.getD 37 undef=.agg #[.int .i64 kd,.int .i64 nn,.string vs,.string vt,.slice none 0 0,.slice none 0 0]from(g5 hc)),(show a.tmps.getD 39 undef=.agg #[.int .i64 kd,.int .i64 nn,.string vs,.string vt,.slice none 0 0,.slice none 0 0]from(g7 hc))]
     ·rintro v w'⟨rfl,hb⟩
      exact⟨hb.mono (Nat.le_trans hz2 hE.size),_,rfl,fun _=>rfl⟩
    ·exact gnot (Qas (g:=3) (b:=true) (d:=35) rfl rfl rfl (show a.tmps.getD 35 undef=.bool (decide (op=1))from g3)) (by simp[hc]) fun h=>absurd h hc
   | 9,hi =>
    obtain rfl:=Option.some.inj hi;intro a w6 hE hoth hpre;have g8:=hpre {on:=8,ground:=.data} (by simp) rfl _ rfl;have g3:=hpre {on:=3,ground:=.guard} (by simp) rfl _ rfl;by_cases hc:op=1
    ·refine gyes (Qas (g:=3) (b:=true) (d:=35) rfl rfl rfl (show a.tmps.getD 35 undef=.bool (decide (op=1))from g3)) (by simp[hc]) ?_
     exact QfT .not 4 (.tmp 40) rfl _ _ (show a.tmps.getD 40 undef=.bool true from(g8 hc)) rfl ⟨.refl _ _,_,rfl,fun _=>rfl⟩
    ·exact gnot (Qas (g:=3) (b:=true) (d:=35) rfl rfl rfl (show a.tmps.getD 35 undef=.bool (decide (op=1))from g3)) (by simp[hc]) fun h=>absurd h hc
   | 10,hi =>
    obtain rfl:=Option.some.inj hi;intro a w6 hE hoth hpre;have g3:=hpre {on:=3,ground:=.data} (by simp) rfl _ rfl;have g9:=hpre {on:=9,ground:=.data} (by simp) rfl _ rfl;refine gno rfl ?_;refine QcM (.tmp 35) (.tmp 41) (.const (.bool false)) rfl _ (show a.tmps.getD 35 undef=.bool (decide (op=1))from g3) _ ?_ ⟨.refl _ _,_,rfl,rfl⟩;by_cases hc:op=1
    ·rw[if_pos (by simp[hc])]
     exact(show a.tmps.getD 41 undef=.bool false from(g9 hc))
    ·rw[if_neg (by simp[hc])]
     rfl
   | 11,hi =>
    obtain rfl:=Option.some.inj hi;intro a w6 hE hoth hpre;have g10:=hpre {on:=10,ground:=.data} (by simp) rfl _ rfl;have g8:=hpre {on:=8,ground:=.chain} (by simp) rfl _ rfl;refine gno rfl ?_;exact Qb5 (.tmp 42) rfl _ (show a.tmps.getD 42 undef=.bool false from g10) ⟨.refl _ _,_,rfl,rfl⟩
   | 12,hi =>
    obtain rfl:=Option.some.inj hi;intro a w6 hE hoth hpre;have g11:=hpre {on:=11,ground:=.guard} (by simp) rfl _ rfl;refine gyes (Qas (g:=11) (b:=false) (d:=43) rfl rfl rfl (show a.tmps.getD 43 undef=.bool false from g11)) rfl ?_;exact Qaw 33 (.tmp 2) 0 rfl _ ((hoth 2 (by decide)).trans hA0) _ (Qik w6 _) ⟨.refl _ _,_,rfl,rfl⟩
   | 13,hi =>
    obtain rfl:=Option.some.inj hi;intro a w6 hE hoth hpre;have g12:=hpre {on:=12,ground:=.data} (by simp) rfl _ rfl;have g11:=hpre {on:=11,ground:=.guard} (by simp) rfl _ rfl;refine gyes (Qas (g:=11) (b:=false) (d:=43) rfl rfl rfl (show a.tmps.getD 43 undef=.bool false from g11)) rfl ?_;exact QaO 3 (.tmp 44) rfl _ (show a.tmps.getD 44 undef=.pointer (some ⟨w.heap.size,0,none⟩)from g12) _ (ldi3 w6 _ _ _ (Qaa (o:=0) (hCA w6 hE) rfl)) ⟨.refl _ _,_,rfl,rfl⟩
   | 14,hi =>
    obtain rfl:=Option.some.inj hi;intro a w6 hE hoth hpre;have g13:=hpre {on:=13,ground:=.data} (by simp) rfl _ rfl;have g11:=hpre {on:=11,ground:=.guard} (by simp) rfl _ rfl;refine gyes (Qas (g:=11) (b:=false) (d:=43) rfl rfl rfl (show a.tmps.getD 43 undef=.bool false from g11)) rfl ?_;exact QcI .eql 3 3 (.tmp 45) (.const (.int .i64 30)) rfl _ _ (show a.tmps.getD 45 undef=.int .i64 op from g13) rfl _ (eq3 w6 _ _ op 30) ⟨.refl _ _,_,rfl,rfl⟩
   | 15,hi =>
    obtain rfl:=Option.some.inj hi;intro a w6 hE hoth hpre;have g14:=hpre {on:=14,ground:=.data} (by simp) rfl _ rfl;have g11:=hpre {on:=11,ground:=.chain} (by simp) rfl _ rfl;refine gyes (Qas (g:=11) (b:=false) (d:=43) rfl rfl rfl (show a.tmps.getD 43 undef=.bool false from g11)) rfl ?_;exact Qb5 (.tmp 46) rfl _ (show a.tmps.getD 46 undef=.bool (decide (op=30))from g14) ⟨.refl _ _,_,rfl,rfl⟩
   | 16,hi =>
    obtain rfl:=Option.some.inj hi;intro a w6 hE hoth hpre;have g15:=hpre {on:=15,ground:=.guard} (by simp) rfl _ rfl;by_cases hc:op=30
    ·refine gyes (Qas (g:=15) (b:=true) (d:=47) rfl rfl rfl (show a.tmps.getD 47 undef=.bool (decide (op=30))from g15)) (by simp[hc]) ?_
     exact Qaw 33 (.tmp 2) 3 rfl _ ((hoth 2 (by decide)).trans hA0) _ (fd33_3 w6 _) ⟨.refl _ _,_,rfl,fun _=>rfl⟩
    ·exact gnot (Qas (g:=15) (b:=true) (d:=47) rfl rfl rfl (show a.tmps.getD 47 undef=.bool (decide (op=30))from g15)) (by simp[hc]) fun h=>absurd h hc
   | 17,hi =>
    obtain rfl:=Option.some.inj hi;intro a w6 hE hoth hpre;have g16:=hpre {on:=16,ground:=.data} (by simp) rfl _ rfl;have g15:=hpre {on:=15,ground:=.guard} (by simp) rfl _ rfl;by_cases hc:op=30
    ·refine gyes (Qas (g:=15) (b:=true) (d:=47) rfl rfl rfl (show a.tmps.getD 47 undef=.bool (decide (op=30))from g15)) (by simp[hc]) ?_
     exact QaO 27 (.tmp 48) rfl _ (show a.tmps.getD 48 undef=.pointer (some ⟨w.heap.size,8,none⟩)from(g16 hc)) _ (ld27 w6 _ _ _ _ _ (Qaa (o:=8) (hCA w6 hE) rfl)) ⟨.refl _ _,_,rfl,fun _=>rfl⟩
    ·exact gnot (Qas (g:=15) (b:=true) (d:=47) rfl rfl rfl (show a.tmps.getD 47 undef=.bool (decide (op=30))from g15)) (by simp[hc]) fun h=>absurd h hc
   | 18,hi =>
    obtain rfl:=Option.some.inj hi;intro a w6 hE hoth hpre;have g15:=hpre {on:=15,ground:=.guard} (by simp) rfl _ rfl;by_cases hc:op=30
    ·refine gyes (Qas (g:=15) (b:=true) (d:=47) rfl rfl rfl (show a.tmps.getD 47 undef=.bool (decide (op=30))from g15)) (by simp[hc]) ?_
     exact Qaw 33 (.tmp 3) 3 rfl _ ((hoth 3 (by decide)).trans hB0) _ (fd33_3 w6 _) ⟨.refl _ _,_,rfl,fun _=>rfl⟩
    ·exact gnot (Qas (g:=15) (b:=true) (d:=47) rfl rfl rfl (show a.tmps.getD 47 undef=.bool (decide (op=30))from g15)) (by simp[hc]) fun h=>absurd h hc
   | 19,hi =>
    obtain rfl:=Option.some.inj hi;intro a w6 hE hoth hpre;have g18:=hpre {on:=18,ground:=.data} (by simp) rfl _ rfl;have g15:=hpre {on:=15,ground:=.guard} (by simp) rfl _ rfl;by_cases hc:op=30
    ·refine gyes (Qas (g:=15) (b:=true) (d:=47) rfl rfl rfl (show a.tmps.getD 47 undef=.bool (decide (op=30))from g15)) (by simp[hc]) ?_
     exact QaO 27 (.tmp 50) rfl _ (show a.tmps.getD 50 undef=.pointer (some ⟨w.heap.size+1,8,none⟩)from(g18 hc)) _ (ld27 w6 _ _ _ _ _ (Qaa (o:=8) (hCB w6 hE) rfl)) ⟨.refl _ _,_,rfl,fun _=>rfl⟩
    ·exact gnot (Qas (g:=15) (b:=true) (d:=47) rfl rfl rfl (show a.tmps.getD 47 undef=.bool (decide (op=30))from g15)) (by simp[hc]) fun h=>absurd h hc
   | 20,hi =>
    obtain rfl:=Option.some.inj hi;intro a w6 hE hoth hpre;have g17:=hpre {on:=17,ground:=.data} (by simp) rfl _ rfl;have g19:=hpre {on:=19,ground:=.data} (by simp) rfl _ rfl;have g15:=hpre {on:=15,ground:=.chain} (by simp) rfl _ rfl;by_cases hc:op=30
    ·refine gyes (Qas (g:=15) (b:=true) (d:=47) rfl rfl rfl (show a.tmps.getD 47 undef=.bool (decide (op=30))from g15)) (by simp[hc]) ?_
     refine Qcx 33 #[.tmp 49,.tmp 51] #[27,27] rfl Tryz.f33 Tryz.func33 rfl rfl [.slice pk keys.length ck,.slice qk keys.length dk] ?_ (fun v w'=>v=.bool true∧Below w6.heap.size w6 w') ((SS.out w6 (hE0.trans (hE.mono (Nat.le_refl _)))).mono fun e w' h=>⟨_,h.1,rfl,h.2⟩) ?_
     ·show [a.tmps.getD 49 undef,a.tmps.getD 51 undef]=_
      rw[(show a.tmps.getD 49 undef=.slice pk keys.length ck from(g17 hc)),(show a.tmps.getD 51 undef=.slice qk keys.length dk from(g19 hc))]
     ·rintro v w'⟨rfl,hb⟩
      exact⟨hb.mono (Nat.le_trans hz2 hE.size),_,rfl,fun _=>rfl⟩
    ·exact gnot (Qas (g:=15) (b:=true) (d:=47) rfl rfl rfl (show a.tmps.getD 47 undef=.bool (decide (op=30))from g15)) (by simp[hc]) fun h=>absurd h hc
   | 21,hi =>
    obtain rfl:=Option.some.inj hi;intro a w6 hE hoth hpre;have g20:=hpre {on:=20,ground:=.data} (by simp) rfl _ rfl;have g15:=hpre {on:=15,ground:=.guard} (by simp) rfl _ rfl;by_cases hc:op=30
    ·refine gyes (Qas (g:=15) (b:=true) (d:=47) rfl rfl rfl (show a.tmps.getD 47 undef=.bool (decide (op=30))from g15)) (by simp[hc]) ?_
     exact QfT .not 4 (.tmp 52) rfl _ _ (show a.tmps.getD 52 undef=.bool true from(g20 hc)) rfl ⟨.refl _ _,_,rfl,fun _=>rfl⟩
    ·exact gnot (Qas (g:=15) (b:=true) (d:=47) rfl rfl rfl (show a.tmps.getD 47 undef=.bool (decide (op=30))from g15)) (by simp[hc]) fun h=>absurd h hc
   | 22,hi =>
    obtain rfl:=Option.some.inj hi;intro a w6 hE hoth hpre;have g15:=hpre {on:=15,ground:=.data} (by simp) rfl _ rfl;have g21:=hpre {on:=21,ground:=.data} (by simp) rfl _ rfl;have g11:=hpre {on:=11,ground:=.guard} (by simp) rfl _ rfl;refine gyes (Qas (g:=11) (b:=false) (d:=43) rfl rfl rfl (show a.tmps.getD 43 undef=.bool false from g11)) rfl ?_;refine QcM (.tmp 47) (.tmp 53) (.const (.bool false)) rfl _ (show a.tmps.getD 47 undef=.bool (decide (op=30))from g15) _ ?_ ⟨.refl _ _,_,rfl,rfl⟩
    by_cases hc:op=30
    ·rw[if_pos (by simp[hc])]
     exact(show a.tmps.getD 53 undef=.bool false from(g21 hc))
    ·rw[if_neg (by simp[hc])]
     rfl
   | 23,hi =>
    obtain rfl:=Option.some.inj hi;intro a w6 hE hoth hpre;have g11:=hpre {on:=11,ground:=.data} (by simp) rfl _ rfl;have g22:=hpre {on:=22,ground:=.data} (by simp) rfl _ rfl;refine gno rfl ?_;refine QcM (.tmp 43) (.const (.bool true)) (.tmp 54) rfl _ (show a.tmps.getD 43 undef=.bool false from g11) _ ?_ ⟨.refl _ _,_,rfl,rfl⟩;rw[if_neg (by simp)];exact(show a.tmps.getD 54 undef=.bool false from g22)
   | 24,hi =>
    obtain rfl:=Option.some.inj hi;intro a w6 hE hoth hpre;have g23:=hpre {on:=23,ground:=.data} (by simp) rfl _ rfl;have g20:=hpre {on:=20,ground:=.chain} (by simp) rfl _ rfl;refine gno rfl ?_;exact Qb5 (.tmp 55) rfl _ (show a.tmps.getD 55 undef=.bool false from g23) ⟨.refl _ _,_,rfl,rfl⟩
   | 25,hi =>
    obtain rfl:=Option.some.inj hi;intro a w6 hE hoth hpre;have g24:=hpre {on:=24,ground:=.guard} (by simp) rfl _ rfl;refine gyes (Qas (g:=24) (b:=false) (d:=56) rfl rfl rfl (show a.tmps.getD 56 undef=.bool false from g24)) rfl ?_;exact Qaw 33 (.tmp 2) 0 rfl _ ((hoth 2 (by decide)).trans hA0) _ (Qik w6 _) ⟨.refl _ _,_,rfl,rfl⟩
   | 26,hi =>
    obtain rfl:=Option.some.inj hi;intro a w6 hE hoth hpre;have g25:=hpre {on:=25,ground:=.data} (by simp) rfl _ rfl;have g24:=hpre {on:=24,ground:=.guard} (by simp) rfl _ rfl;refine gyes (Qas (g:=24) (b:=false) (d:=56) rfl rfl rfl (show a.tmps.getD 56 undef=.bool false from g24)) rfl ?_;exact QaO 3 (.tmp 57) rfl _ (show a.tmps.getD 57 undef=.pointer (some ⟨w.heap.size,0,none⟩)from g25) _ (ldi3 w6 _ _ _ (Qaa (o:=0) (hCA w6 hE) rfl)) ⟨.refl _ _,_,rfl,rfl⟩
   | 27,hi =>
    obtain rfl:=Option.some.inj hi;intro a w6 hE hoth hpre;have g26:=hpre {on:=26,ground:=.data} (by simp) rfl _ rfl;have g24:=hpre {on:=24,ground:=.guard} (by simp) rfl _ rfl;refine gyes (Qas (g:=24) (b:=false) (d:=56) rfl rfl rfl (show a.tmps.getD 56 undef=.bool false from g24)) rfl ?_;refine QcI .eql 3 3 (.tmp 58) (.const (.int .i64 15)) rfl _ _ (show a.tmps.getD 58 undef=.int .i64 op from g26) rfl _ (eq3 w6 _ _ op 15) ⟨.refl _ _,_,rfl,?_⟩
    show Value.bool (decide (op=15))=_;rw[decide_eq_false h15]
   | 28,hi =>
    obtain rfl:=Option.some.inj hi;intro a w6 hE hoth hpre;have g27:=hpre {on:=27,ground:=.data} (by simp) rfl _ rfl;have g24:=hpre {on:=24,ground:=.chain} (by simp) rfl _ rfl;refine gyes (Qas (g:=24) (b:=false) (d:=56) rfl rfl rfl (show a.tmps.getD 56 undef=.bool false from g24)) rfl ?_;exact Qb5 (.tmp 59) rfl _ (show a.tmps.getD 59 undef=.bool false from g27) ⟨.refl _ _,_,rfl,rfl⟩
   | 29,hi =>
    obtain rfl:=Option.some.inj hi;intro a w6 hE hoth hpre;have g28:=hpre {on:=28,ground:=.guard} (by simp) rfl _ rfl;exact gnot (Qas (g:=28) (b:=true) (d:=60) rfl rfl rfl (show a.tmps.getD 60 undef=.bool false from g28)) rfl fun h=>h.elim
   | 30,hi =>
    obtain rfl:=Option.some.inj hi;intro a w6 hE hoth hpre;have g29:=hpre {on:=29,ground:=.data} (by simp) rfl _ rfl;have g28:=hpre {on:=28,ground:=.guard} (by simp) rfl _ rfl;exact gnot (Qas (g:=28) (b:=true) (d:=60) rfl rfl rfl (show a.tmps.getD 60 undef=.bool false from g28)) rfl fun h=>h.elim
   | 31,hi =>
    obtain rfl:=Option.some.inj hi;intro a w6 hE hoth hpre;have g30:=hpre {on:=30,ground:=.data} (by simp) rfl _ rfl;have g28:=hpre {on:=28,ground:=.chain} (by simp) rfl _ rfl;exact gnot (Qas (g:=28) (b:=true) (d:=60) rfl rfl rfl (show a.tmps.getD 60 undef=.bool false from g28)) rfl fun h=>h.elim
   | 32,hi =>
    obtain rfl:=Option.some.inj hi;intro a w6 hE hoth hpre;have g28:=hpre {on:=28,ground:=.guard} (by simp) rfl _ rfl;exact gnot (Qas (g:=28) (b:=true) (d:=60) rfl rfl rfl (show a.tmps.getD 60 undef=.bool false from g28)) rfl fun h=>h.elim
   | 33,hi =>
    obtain rfl:=Option.some.inj hi;intro a w6 hE hoth hpre;have g32:=hpre {on:=32,ground:=.data} (by simp) rfl _ rfl;have g28:=hpre {on:=28,ground:=.guard} (by simp) rfl _ rfl;exact gnot (Qas (g:=28) (b:=true) (d:=60) rfl rfl rfl (show a.tmps.getD 60 undef=.bool false from g28)) rfl fun h=>h.elim
   | 34,hi =>
    obtain rfl:=Option.some.inj hi;intro a w6 hE hoth hpre;have g33:=hpre {on:=33,ground:=.data} (by simp) rfl _ rfl;have g31:=hpre {on:=31,ground:=.chain} (by simp) rfl _ rfl;have g28:=hpre {on:=28,ground:=.guard} (by simp) rfl _ rfl;exact gnot (Qas (g:=28) (b:=true) (d:=60) rfl rfl rfl (show a.tmps.getD 60 undef=.bool false from g28)) rfl fun h=>h.elim
   | 35,hi =>
    obtain rfl:=Option.some.inj hi;intro a w6 hE hoth hpre;have g31:=hpre {on:=31,ground:=.data} (by simp) rfl _ rfl;have g34:=hpre {on:=34,ground:=.data} (by simp) rfl _ rfl;have g28:=hpre {on:=28,ground:=.guard} (by simp) rfl _ rfl;exact gnot (Qas (g:=28) (b:=true) (d:=60) rfl rfl rfl (show a.tmps.getD 60 undef=.bool false from g28)) rfl fun h=>h.elim
   | 36,hi =>
    obtain rfl:=Option.some.inj hi;intro a w6 hE hoth hpre;have g35:=hpre {on:=35,ground:=.data} (by simp) rfl _ rfl;have g28:=hpre {on:=28,ground:=.guard} (by simp) rfl _ rfl;exact gnot (Qas (g:=28) (b:=true) (d:=60) rfl rfl rfl (show a.tmps.getD 60 undef=.bool false from g28)) rfl fun h=>h.elim
   | 37,hi =>
    obtain rfl:=Option.some.inj hi;intro a w6 hE hoth hpre;have g28:=hpre {on:=28,ground:=.data} (by simp) rfl _ rfl;have g36:=hpre {on:=36,ground:=.data} (by simp) rfl _ rfl;have g24:=hpre {on:=24,ground:=.guard} (by simp) rfl _ rfl;refine gyes (Qas (g:=24) (b:=false) (d:=56) rfl rfl rfl (show a.tmps.getD 56 undef=.bool false from g24)) rfl ?_;refine QcM (.tmp 60) (.tmp 68) (.const (.bool false)) rfl _ (show a.tmps.getD 60 undef=.bool false from g28) _ ?_ ⟨.refl _ _,_,rfl,rfl⟩
    rw[if_neg (by simp)];rfl
   | 38,hi =>
    obtain rfl:=Option.some.inj hi;intro a w6 hE hoth hpre;have g24:=hpre {on:=24,ground:=.data} (by simp) rfl _ rfl;have g37:=hpre {on:=37,ground:=.data} (by simp) rfl _ rfl;refine gno rfl ?_;refine QcM (.tmp 56) (.const (.bool true)) (.tmp 69) rfl _ (show a.tmps.getD 56 undef=.bool false from g24) _ ?_ ⟨.refl _ _,_,rfl,rfl⟩;rw[if_neg (by simp)];exact(show a.tmps.getD 69 undef=.bool false from g37)
   | j+39,hi=>simp at hi
def U32Row(w:World)(p:Option Addr)(ns:List Nat):Prop:=∀(i n:Nat),ns[i]? =some n→n<4294967296∧∃b off,p=some ⟨b,off,none⟩∧b<w.heap.size∧w.cell? ⟨b,off+i,none⟩=some (.int .u32 (n:Int))
theorem Qil(r:Bool){i n:Nat}(hi:i<4294967296)(hn:n<4294967296):(QcK r i n).length≤27:=by
 have h1:=QdD hi;have h2:=QdD hn;unfold QcK;rw[List.length_append,List.length_append];have h3:(if i=0 then([]:List UInt8)else [44,32]).length≤2:=by split<;>simp
 have h4:(if r=true then [34,107]++dig i++[34,58,32]else([]:List UInt8)).length≤15:=by split<;>simp<;>omega
 omega
theorem QfU(r:Bool):∀(l:List Nat)(i:Nat),(∀n∈l,n<4294967296)→i+l.length<4294967296→(txtI r i l).length≤27*l.length
 | [],_,_,_=>Nat.le_refl _
 | n::l,i,h,hi=>by
  rw[List.length_cons]at hi;have h1:=Qil r (i:=i) (n:=n) (by omega) (h n (by simp));have h2:=QfU r l (i+1) (fun m hm=>h m (by simp[hm])) (by omega);rw[txtI,List.length_append,List.length_cons];omega
@[local go_sem] theorem ix26_0(x y z:ByteArray)(w:World):(Instr.index 26 (.agg #[.string x,.string y,.string z]) (.int .u8 0)).run Tryz.prog w=.ok (.string x) w:=by kernel_rfl
@[local go_sem] theorem ix26_1(x y z:ByteArray)(w:World):(Instr.index 26 (.agg #[.string x,.string y,.string z]) (.int .u8 1)).run Tryz.prog w=.ok (.string y) w:=by kernel_rfl
@[local go_sem] theorem ix26_2(x y z:ByteArray)(w:World):(Instr.index 26 (.agg #[.string x,.string y,.string z]) (.int .u8 2)).run Tryz.prog w=.ok (.string z) w:=by kernel_rfl
def CmRel(w0:World)(r:Bool)(ns:List Nat)(v5 v6:Value)(wr:World):Prop :=
 ∃(i:Nat)(s:ByteArray),v6=.int .i64 (i:Int)∧v5=.string s∧i≤ns.length∧s=⟨(txtI r 0 (ns.take i)).toArray⟩∧Below w0.heap.size w0 wr
theorem take_txt{r:Bool}{ns:List Nat}{i n:Nat}(h:ns[i]? =some n):txtI r 0 (ns.take (i+1))=txtI r 0 (ns.take i)++QcK r i n:=by
 have hi:i<ns.length:=(List.getElem?_eq_some_iff.1 h).1;rw[List.take_add_one,h,Option.toList,QeL,List.length_take,Nat.zero_add,Nat.min_eq_left (by omega)]
theorem Qim(SE:∀x,PxOk x→SeOk x)(w:World)(hG:WG w)(p:Option Addr)(cap N k:Nat)(hk:k<256)(hNm:N≤maxLen)(hrow:N≤20→∃ns:List Nat,ns.length=N∧U32Row w p ns):Calls Tryz.prog 3 #[.slice p N cap,.int .u8 (k:Int)] w (SeP w):=by
 unfold maxLen at hNm;go_enter Tryz.func3,Tryz.ntmps3;by_cases hbig:2147483647<N
 ·have g1:(2147483647:Int)<(N:Int):=by omega
  go_wp2_with fail
  go_ret;exact⟨rfl,.refl _ _⟩
 have g1:¬(2147483647:Int)<(N:Int):=by omega
 by_cases h20:20<N
 ·have g2:(20:Int)<(N:Int):=by omega
  go_wp2_with fail
  go_ret;exact⟨rfl,.refl _ _⟩
 have g2:¬(20:Int)<(N:Int):=by omega
 by_cases h0:N=0
 ·subst h0
  go_wp2_with fail
  go_ret;exact⟨rfl,.refl _ _⟩
 obtain⟨ns,rfl,hR⟩:=hrow (by omega);have g3:¬(ns.length:Int)=0:=by omega
 have HG:=Hi hG;clear hG;have HR:=Hi hR;clear hR hrow;have HNS:Hid (∀n∈ns,n<4294967296):=Hi (fun n hn=>by
  obtain⟨i,hi⟩:=List.getElem?_of_mem hn;exact(HR.out i n hi).1)
 have HLEN:Hid (∀r i,(⟨(txtI r 0 (ns.take i)).toArray⟩:ByteArray).size≤540):=Hi (fun r i=>by
  show(txtI r 0 (ns.take i)).length≤540;have h1:=QfU r (ns.take i) 0 (fun n hn=>HNS.out n (List.mem_of_mem_take hn)) (by rw[List.length_take];omega);rw[List.length_take]at h1;omega)
 obtain⟨j,hj⟩:∃j,k%3=j:=⟨_,rfl⟩
 have hj3:j<3:=by omega
 have kj:(k:Int)%3=(j:Int):=by omega
 have LAW:=Hi (Qij j hj3 ns (by intro e;rw[e]at h0;exact h0 rfl) (by omega) HNS.out)
 go_upto_region 7 with(fail)
 have HQ:Hid (CmRel w (j==1) ns (.string ⟨#[]⟩) (.int .i64 0) w):=Hi ⟨0,_,rfl,rfl,Nat.zero_le _,rfl,.refl _ _⟩
 go_loopw [5,6] (fun v5 v6 wr=>CmRel w (j==1) ns v5 v6 wr) (fun _ v6 _=>ns.length-(intOf v6).toNat)
 case atStart=>exact HQ.out
 case round =>
  clear HQ;obtain⟨i,s,rfl,rfl,hi,hs,hB⟩:=hrel;have hsz:s.size≤540:=by rw[hs];exact HLEN.out _ _
  have HS:=Hi hs;clear hs;by_cases hlt:i<ns.length
  ·obtain⟨n,hn⟩:∃n,ns[i]? =some n:=⟨ns[i],by simp[hlt]⟩
   obtain⟨hn32,b1,o1,rfl,hb1,q1⟩:=HR.out i n hn;have r1:wr.cell? ⟨b1,o1+i,none⟩=some (.int .u32 (n:Int)):=(Ext.below (S:=fun _=>False) hB).cell (fun h=>h) q1;have HTK:=Hi (take_txt (r:=j==1) hn);have HB:=Hi hB;clear q1 hn hB HR HLEN;have k32:i<4294967296:=by omega
   have hdi:=QdD k32;have hdn:=QdD hn32;by_cases hi0:i=0
   ·have hpos:¬(0:Int)<(i:Int):=by omega
    have HI0:=Hi hi0;clear hi0;by_cases hj1:j=1
    ·subst hj1
     have kj1:(k:Int)%3=1:=kj;clear kj
     go_wp2_with fail
     refine(Qcy i k32 _).mono ?_;rintro e w2⟨rfl,B2⟩;have r2:=(Ext.below (S:=fun _=>False) B2).cell (fun h=>h) r1;have HB2:=Hi (HB.out.trans (B2.mono HB.out.size));clear B2 r1
     go_wp2_with fail
     refine(Qcy n hn32 _).mono ?_;rintro e w3⟨rfl,B3⟩;have HB3:=Hi (HB2.out.trans (B3.mono HB2.out.size));clear B3 r2
     go_wp2_with fail
     go_roundw
     case rel =>
      refine⟨i+1,_,by go_num,rfl,by omega,?_,HB3.out⟩;rw[HTK.out,HS.out];apply ByteArray.ext;rw[QcK,if_pos HI0.out];simp
     case measure=>simp[intOf];omega
    ·have kj1:¬(k:Int)%3=1:=by omega
     have hj1':(j==1)=false:=by simpa using hj1
     clear kj;rw[hj1']at HTK HS ⊢
     go_wp2_with fail
     refine(Qcy n hn32 _).mono ?_;rintro e w3⟨rfl,B3⟩;have HB3:=Hi (HB.out.trans (B3.mono HB.out.size));clear B3 r1
     go_wp2_with fail
     go_roundw
     case rel =>
      refine⟨i+1,_,by go_num,rfl,by omega,?_,HB3.out⟩;rw[HTK.out,HS.out];apply ByteArray.ext;rw[QcK,if_pos HI0.out];simp
     case measure=>simp[intOf];omega
   ·have hpos:(0:Int)<(i:Int):=by omega
    by_cases hj1:j=1
    ·subst hj1
     have kj1:(k:Int)%3=1:=kj;clear kj
     go_wp2_with fail
     refine(Qcy i k32 _).mono ?_;rintro e w2⟨rfl,B2⟩;have r2:=(Ext.below (S:=fun _=>False) B2).cell (fun h=>h) r1;have HB2:=Hi (HB.out.trans (B2.mono HB.out.size));clear B2 r1
     go_wp2_with fail
     refine(Qcy n hn32 _).mono ?_;rintro e w3⟨rfl,B3⟩;have HB3:=Hi (HB2.out.trans (B3.mono HB2.out.size));clear B3 r2
     go_wp2_with fail
     go_roundw
     case rel =>
      refine⟨i+1,_,by go_num,rfl,by omega,?_,HB3.out⟩;rw[HTK.out,HS.out];apply ByteArray.ext;simp[QcK,hi0]
     case measure=>simp[intOf];omega
    ·have kj1:¬(k:Int)%3=1:=by omega
     have hj1':(j==1)=false:=by simpa using hj1
     clear kj;rw[hj1']at HTK HS ⊢
     go_wp2_with fail
     refine(Qcy n hn32 _).mono ?_;rintro e w3⟨rfl,B3⟩;have HB3:=Hi (HB.out.trans (B3.mono HB.out.size));clear B3 r1
     go_wp2_with fail
     go_roundw
     case rel =>
      refine⟨i+1,_,by go_num,rfl,by omega,?_,HB3.out⟩;rw[HTK.out,HS.out];apply ByteArray.ext;simp[QcK,hi0]
     case measure=>simp[intOf];omega
  ·obtain rfl:i=ns.length:=by omega
   have HTX:Hid (s=⟨(txtI (j==1) 0 ns).toArray⟩):=Hi (by have:=HS.out;rwa [List.take_length]at this);have HB:=Hi hB;clear hB HS HR HLEN;have HWG:=Hi (HG.out.below HB.out);obtain⟨x,hok,hx⟩:=LAW.out;have HX0:=Hi (hx false);have HX1:=Hi (hx true);have HOK:=Hi (SE x hok);clear hx hok LAW HNS;have hj012:j=0∨j=1∨j=2:=by omega
   rcases hj012 with hjj | hjj | hjj
   ·subst hjj
    have kj':(k:Int)%3=0:=kj;clear kj
    go_upto_region 16 with(fail)
    go_wp2_with fail
    refine(in_c _ ?_ x ?_ _ HWG.out).mono ?_
    ·rw[ByteArray.size_append,ByteArray.size_append]
     show 1+s.size+1≤_;omega
    ·have h:=HX0.out
     have e:(⟨#[91]⟩:ByteArray)++s++(⟨#[93]⟩:ByteArray)=⟨(Qci 0 false ns).toArray⟩:=by rw[HTX.out];apply ByteArray.ext;simp[Qci,QdI,endT]
     rw[e];exact h
    rintro e w2⟨B2,cs,hcs,rfl⟩;have HCS:=Hi hcs;obtain⟨op',s',kd,nn,vs,vt,pk,nk,ck,pp,np,cp,pl,nl,cl,rfl⟩:=hcs.get;clear hcs;have HB2:=Hi (HB.out.trans (B2.mono HB.out.size));clear B2
    go_upto_region 17 with(fail)
    refine QaB fun w3 hw3=>?_
    have B3:Below w2.heap.size w2 w3:=by rw[hw3];exact Qab _ _
    have hA3:w3.heap[w2.heap.size]? =some (.cells #[.int .i64 op',.string s',.int .i64 kd,.int .i64 nn,.string vs,.string vt,.slice none 0 0,.slice none 0 0,.slice pk nk ck,.slice pp np cp,.slice pl nl cl] 33 (0,0)):=by rw[hw3];exact heap_alloc_new _ _
    clear hw3;have HCS3:=Hi (HCS.out.after B3);have HB3:=Hi (HB2.out.trans (B3.mono HB2.out.size));have HWG3:=Hi (HG.out.below HB3.out);have HA3:=Hi hA3;clear B3 hA3 HCS HWG
    go_wp2_with fail
    refine(in_c _ ?_ x ?_ _ HWG3.out).mono ?_
    ·rw[ByteArray.size_append,ByteArray.size_append,ByteArray.size_append]
     show 1+s.size+1+1≤_;omega
    ·have h:=HX1.out
     have e:(⟨#[91]⟩:ByteArray)++s++(⟨#[44]⟩:ByteArray)++(⟨#[93]⟩:ByteArray)=⟨(Qci 0 true ns).toArray⟩:=by rw[HTX.out];apply ByteArray.ext;simp[Qci,QdI,endT]
     rw[e];exact h
    rintro e w4⟨B4,ds,hds,rfl⟩;have HDS:=Hi hds;obtain⟨oq,sq,kq,nq,vq,tq,uk,mk,dk,up,mp,dp,ul,ml,dl,rfl⟩:=hds.get;clear hds
    go_upto_region 18 with(fail)
    refine QaB fun w5 hw5=>?_
    have B5:Below w4.heap.size w4 w5:=by rw[hw5];exact Qab _ _
    have hB5:w5.heap[w4.heap.size]? =some (.cells #[.int .i64 oq,.string sq,.int .i64 kq,.int .i64 nq,.string vq,.string tq,.slice none 0 0,.slice none 0 0,.slice uk mk dk,.slice up mp dp,.slice ul ml dl] 33 (0,0)):=by rw[hw5];exact heap_alloc_new _ _
    clear hw5;have B35:Below w3.heap.size w3 w5:=B4.trans (B5.mono B4.size);have hA5:=(B35.block _ (Qad HA3.out)).trans HA3.out;have HCS5:=Hi (HCS3.out.after B35);have HDS5:=Hi (HDS.out.after B5);have HB5:=Hi (HB3.out.trans (B35.mono HB3.out.size));clear B5 B35 B4 HCS3 HDS HB3 HA3 HWG3;have a0:=Qaa (o:=0) hA5 rfl;have b0:=Qaa (o:=0) hB5 rfl;have a1:=Qaa (o:=1) hA5 rfl;have b1:=Qaa (o:=1) hB5 rfl;have a2:=Qaa (o:=2) hA5 rfl
    have b2:=Qaa (o:=2) hB5 rfl;have a3:=Qaa (o:=3) hA5 rfl;have b3:=Qaa (o:=3) hB5 rfl;have a4:=Qaa (o:=4) hA5 rfl;have b4:=Qaa (o:=4) hB5 rfl;have a5:=Qaa (o:=5) hA5 rfl;have b5:=Qaa (o:=5) hB5 rfl;have a6:=Qaa (o:=6) hA5 rfl;have b6:=Qaa (o:=6) hB5 rfl;have a7:=Qaa (o:=7) hA5 rfl;have b7:=Qaa (o:=7) hB5 rfl;have a8:=Qaa (o:=8) hA5 rfl;have b8:=Qaa (o:=8) hB5 rfl;have a9:=Qaa (o:=9) hA5 rfl;have b9:=Qaa (o:=9) hB5 rfl
    have a10:=Qaa (o:=10) hA5 rfl;have b10:=Qaa (o:=10) hB5 rfl;clear hA5 hB5
    go_wp2_with fail
    refine(HOK.out w5 _ _ _ _ HCS5.out HDS5.out).mono ?_;rintro e w6⟨rfl,B6⟩;have HB6:=Hi (HB5.out.trans (B6.mono HB5.out.size));clear B6
    go_wp2_with fail
    go_ret;exact⟨rfl,HB6.out⟩
   ·subst hjj
    have kj':(k:Int)%3=1:=kj;clear kj
    go_upto_region 16 with(fail)
    go_wp2_with fail
    refine(in_c _ ?_ x ?_ _ HWG.out).mono ?_
    ·rw[ByteArray.size_append,ByteArray.size_append]
     show 1+s.size+1≤_;omega
    ·have h:=HX0.out
     have e:(⟨#[123]⟩:ByteArray)++s++(⟨#[125]⟩:ByteArray)=⟨(Qci 1 false ns).toArray⟩:=by rw[HTX.out];apply ByteArray.ext;simp[Qci,QdI,endT]
     rw[e];exact h
    rintro e w2⟨B2,cs,hcs,rfl⟩;have HCS:=Hi hcs;obtain⟨op',s',kd,nn,vs,vt,pk,nk,ck,pp,np,cp,pl,nl,cl,rfl⟩:=hcs.get;clear hcs;have HB2:=Hi (HB.out.trans (B2.mono HB.out.size));clear B2
    go_upto_region 17 with(fail)
    refine QaB fun w3 hw3=>?_
    have B3:Below w2.heap.size w2 w3:=by rw[hw3];exact Qab _ _
    have hA3:w3.heap[w2.heap.size]? =some (.cells #[.int .i64 op',.string s',.int .i64 kd,.int .i64 nn,.string vs,.string vt,.slice none 0 0,.slice none 0 0,.slice pk nk ck,.slice pp np cp,.slice pl nl cl] 33 (0,0)):=by rw[hw3];exact heap_alloc_new _ _
    clear hw3;have HCS3:=Hi (HCS.out.after B3);have HB3:=Hi (HB2.out.trans (B3.mono HB2.out.size));have HWG3:=Hi (HG.out.below HB3.out);have HA3:=Hi hA3;clear B3 hA3 HCS HWG
    go_wp2_with fail
    refine(in_c _ ?_ x ?_ _ HWG3.out).mono ?_
    ·rw[ByteArray.size_append,ByteArray.size_append,ByteArray.size_append]
     show 1+s.size+1+1≤_;omega
    ·have h:=HX1.out
     have e:(⟨#[123]⟩:ByteArray)++s++(⟨#[44]⟩:ByteArray)++(⟨#[125]⟩:ByteArray)=⟨(Qci 1 true ns).toArray⟩:=by rw[HTX.out];apply ByteArray.ext;simp[Qci,QdI,endT]
     rw[e];exact h
    rintro e w4⟨B4,ds,hds,rfl⟩;have HDS:=Hi hds;obtain⟨oq,sq,kq,nq,vq,tq,uk,mk,dk,up,mp,dp,ul,ml,dl,rfl⟩:=hds.get;clear hds
    go_upto_region 18 with(fail)
    refine QaB fun w5 hw5=>?_
    have B5:Below w4.heap.size w4 w5:=by rw[hw5];exact Qab _ _
    have hB5:w5.heap[w4.heap.size]? =some (.cells #[.int .i64 oq,.string sq,.int .i64 kq,.int .i64 nq,.string vq,.string tq,.slice none 0 0,.slice none 0 0,.slice uk mk dk,.slice up mp dp,.slice ul ml dl] 33 (0,0)):=by rw[hw5];exact heap_alloc_new _ _
    clear hw5;have B35:Below w3.heap.size w3 w5:=B4.trans (B5.mono B4.size);have hA5:=(B35.block _ (Qad HA3.out)).trans HA3.out;have HCS5:=Hi (HCS3.out.after B35);have HDS5:=Hi (HDS.out.after B5);have HB5:=Hi (HB3.out.trans (B35.mono HB3.out.size));clear B5 B35 B4 HCS3 HDS HB3 HA3 HWG3;have a0:=Qaa (o:=0) hA5 rfl;have b0:=Qaa (o:=0) hB5 rfl;have a1:=Qaa (o:=1) hA5 rfl;have b1:=Qaa (o:=1) hB5 rfl;have a2:=Qaa (o:=2) hA5 rfl
    have b2:=Qaa (o:=2) hB5 rfl;have a3:=Qaa (o:=3) hA5 rfl;have b3:=Qaa (o:=3) hB5 rfl;have a4:=Qaa (o:=4) hA5 rfl;have b4:=Qaa (o:=4) hB5 rfl;have a5:=Qaa (o:=5) hA5 rfl;have b5:=Qaa (o:=5) hB5 rfl;have a6:=Qaa (o:=6) hA5 rfl;have b6:=Qaa (o:=6) hB5 rfl;have a7:=Qaa (o:=7) hA5 rfl;have b7:=Qaa (o:=7) hB5 rfl;have a8:=Qaa (o:=8) hA5 rfl;have b8:=Qaa (o:=8) hB5 rfl;have a9:=Qaa (o:=9) hA5 rfl;have b9:=Qaa (o:=9) hB5 rfl
    have a10:=Qaa (o:=10) hA5 rfl;have b10:=Qaa (o:=10) hB5 rfl;clear hA5 hB5
    go_wp2_with fail
    refine(HOK.out w5 _ _ _ _ HCS5.out HDS5.out).mono ?_;rintro e w6⟨rfl,B6⟩;have HB6:=Hi (HB5.out.trans (B6.mono HB5.out.size));clear B6
    go_wp2_with fail
    go_ret;exact⟨rfl,HB6.out⟩
   ·subst hjj
    have kj':(k:Int)%3=2:=kj;clear kj
    go_upto_region 16 with(fail)
    go_wp2_with fail
    refine(in_c _ ?_ x ?_ _ HWG.out).mono ?_
    ·rw[ByteArray.size_append,ByteArray.size_append]
     show 16+s.size+2≤_;omega
    ·have h:=HX0.out
     have e:(⟨#[91,93,46,99,111,110,116,97,105,110,115,65,108,108,40,91]⟩:ByteArray)++s++(⟨#[93,41]⟩:ByteArray)=⟨(Qci 2 false ns).toArray⟩:=by rw[HTX.out];apply ByteArray.ext;simp[Qci,QdI,endT]
     rw[e];exact h
    rintro e w2⟨B2,cs,hcs,rfl⟩;have HCS:=Hi hcs;obtain⟨op',s',kd,nn,vs,vt,pk,nk,ck,pp,np,cp,pl,nl,cl,rfl⟩:=hcs.get;clear hcs;have HB2:=Hi (HB.out.trans (B2.mono HB.out.size));clear B2
    go_upto_region 17 with(fail)
    refine QaB fun w3 hw3=>?_
    have B3:Below w2.heap.size w2 w3:=by rw[hw3];exact Qab _ _
    have hA3:w3.heap[w2.heap.size]? =some (.cells #[.int .i64 op',.string s',.int .i64 kd,.int .i64 nn,.string vs,.string vt,.slice none 0 0,.slice none 0 0,.slice pk nk ck,.slice pp np cp,.slice pl nl cl] 33 (0,0)):=by rw[hw3];exact heap_alloc_new _ _
    clear hw3;have HCS3:=Hi (HCS.out.after B3);have HB3:=Hi (HB2.out.trans (B3.mono HB2.out.size));have HWG3:=Hi (HG.out.below HB3.out);have HA3:=Hi hA3;clear B3 hA3 HCS HWG
    go_wp2_with fail
    refine(in_c _ ?_ x ?_ _ HWG3.out).mono ?_
    ·rw[ByteArray.size_append,ByteArray.size_append,ByteArray.size_append]
     show 16+s.size+1+2≤_;omega
    ·have h:=HX1.out
     have e:(⟨#[91,93,46,99,111,110,116,97,105,110,115,65,108,108,40,91]⟩:ByteArray)++s++(⟨#[44]⟩:ByteArray)++(⟨#[93,41]⟩:ByteArray)=⟨(Qci 2 true ns).toArray⟩:=by rw[HTX.out];apply ByteArray.ext;simp[Qci,QdI,endT]
     rw[e];exact h
    rintro e w4⟨B4,ds,hds,rfl⟩;have HDS:=Hi hds;obtain⟨oq,sq,kq,nq,vq,tq,uk,mk,dk,up,mp,dp,ul,ml,dl,rfl⟩:=hds.get;clear hds
    go_upto_region 18 with(fail)
    refine QaB fun w5 hw5=>?_
    have B5:Below w4.heap.size w4 w5:=by rw[hw5];exact Qab _ _
    have hB5:w5.heap[w4.heap.size]? =some (.cells #[.int .i64 oq,.string sq,.int .i64 kq,.int .i64 nq,.string vq,.string tq,.slice none 0 0,.slice none 0 0,.slice uk mk dk,.slice up mp dp,.slice ul ml dl] 33 (0,0)):=by rw[hw5];exact heap_alloc_new _ _
    clear hw5;have B35:Below w3.heap.size w3 w5:=B4.trans (B5.mono B4.size);have hA5:=(B35.block _ (Qad HA3.out)).trans HA3.out;have HCS5:=Hi (HCS3.out.after B35);have HDS5:=Hi (HDS.out.after B5);have HB5:=Hi (HB3.out.trans (B35.mono HB3.out.size));clear B5 B35 B4 HCS3 HDS HB3 HA3 HWG3;have a0:=Qaa (o:=0) hA5 rfl;have b0:=Qaa (o:=0) hB5 rfl;have a1:=Qaa (o:=1) hA5 rfl;have b1:=Qaa (o:=1) hB5 rfl;have a2:=Qaa (o:=2) hA5 rfl
    have b2:=Qaa (o:=2) hB5 rfl;have a3:=Qaa (o:=3) hA5 rfl;have b3:=Qaa (o:=3) hB5 rfl;have a4:=Qaa (o:=4) hA5 rfl;have b4:=Qaa (o:=4) hB5 rfl;have a5:=Qaa (o:=5) hA5 rfl;have b5:=Qaa (o:=5) hB5 rfl;have a6:=Qaa (o:=6) hA5 rfl;have b6:=Qaa (o:=6) hB5 rfl;have a7:=Qaa (o:=7) hA5 rfl;have b7:=Qaa (o:=7) hB5 rfl;have a8:=Qaa (o:=8) hA5 rfl;have b8:=Qaa (o:=8) hB5 rfl;have a9:=Qaa (o:=9) hA5 rfl;have b9:=Qaa (o:=9) hB5 rfl
    have a10:=Qaa (o:=10) hA5 rfl;have b10:=Qaa (o:=10) hB5 rfl;clear hA5 hB5
    go_wp2_with fail
    refine(HOK.out w5 _ _ _ _ HCS5.out HDS5.out).mono ?_;rintro e w6⟨rfl,B6⟩;have HB6:=Hi (HB5.out.trans (B6.mono HB5.out.size));clear B6
    go_wp2_with fail
    go_ret;exact⟨rfl,HB6.out⟩
end Go.Proofs.Pg
namespace Go.Proofs.Pg
theorem se_c(x:PEx)(hx:PxOk x):SeOk x:=by
 induction hx with
 | mk op s v keys pieces l hk hp hl hop h ih=>exact se_g op s v keys pieces l hk hl hop ih
theorem Qin(w:World)(hG:WG w)(p:Option Addr)(cap N k:Nat)(hk:k<256)(hNm:N≤maxLen)(hrow:N≤20→∃ns:List Nat,ns.length=N∧U32Row w p ns):Calls Tryz.prog 3 #[.slice p N cap,.int .u8 (k:Int)] w (SeP w) :=
 Qim (fun x hx=>se_c x hx) w hG p cap N k hk hNm hrow
end Go.Proofs.Pg
