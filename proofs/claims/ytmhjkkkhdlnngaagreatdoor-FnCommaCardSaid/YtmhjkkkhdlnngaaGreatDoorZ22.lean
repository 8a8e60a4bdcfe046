/- FnComma: a last comma changes nothing; for every world. Part 22. -/
import Derived.Test.YtmhjkkkhdlnngaaGreatDoorZ21
set_option linter.all false
set_option maxRecDepth 100000
set_option maxHeartbeats 40000000
namespace Go.Proofs.Pg
open Go.RowKit
attribute [local go_sem] Oper.semAt_some
theorem QgU{L:Lex}(hL:LexC L){E:Toks→Option (Ex×Toks)}{bp base N:Nat}(hE:Sh E)(hC:FnC 149 E bp base N)(hX:Qg8 (⟨#[93]⟩:ByteArray) (Qbr E [93]) bp base N)(hR:FnC 280 (recE L E) bp base N)
  (hI:∀(w:World)(ts:Toks)(r0:ByteArray)(g0:Nat),PS w bp base ts→Wf ts→ts.length<g0→ts.length≤N→base≤w.heap.size→r0.size+ts.length*1000002≤2000000000000→Calls Tryz.prog 273 #[.pointer (some ⟨bp,0,none⟩),.string r0] w (QfY bp base w (Qa1 L E g0 r0 ts))) :
  FnC 257 (primary L E) bp base (N+1):=by
 intro w ts hp hwf hN hbs;have hbb:=hp.hbp;have h15:=hp.h15;have hlen:=hp.len;have HC:=Hi hC;have HX:=Hi hX;have HE:=Hi hE;have HRC:=Hi hR;have HI:=Hi hI;clear hC hE hX hR hI;obtain⟨u,q,rfl⟩:∃u q,ts=u::q:=by cases ts with | nil=>exact absurd rfl hp.ne | cons u q=>exact⟨u,q,rfl⟩
 have htz:=hp.sz;have hwa:=hwf.adv;have hla:(adv (u::q)).length≤(u::q).length:=(Qam hwf).len;have hadt:=hp.ne;go_enter Tryz.func257,Tryz.ntmps257
 go_upto_region 2 with(fail)
 obtain⟨w1,hw⟩:∃w1,((w.alloc (.cells #[.nilIface] 299)).alloc (.cells #[.nilIface] 299))=w1:=⟨_,rfl⟩
 rw[hw];have hF:Below w.heap.size w w1:=by rw[←hw];exact(Qab w _).alloc (by simp) _
 have hR1:w1.heap[w.heap.size]? =some (.cells #[.nilIface] 299 (0,0)):=by rw[←hw];exact Qaf (Qah (by simp) _) _
 have hV1:w1.heap[w.heap.size+1]? =some (.cells #[.nilIface] 299 (0,0)):=by rw[←hw];exact Qah (by simp) _
 have hs1:w.heap.size+2≤w1.heap.size:=by rw[←hw];simp
 clear hw;have hX1:Ext (·=bp) w w1:=.below hF;have hp1:=hp.below hF;clear hp;clear hF
 go_wp2_with fail
 refine(Qaz hp1).mono ?_;rintro e w2⟨rfl,hp2,hF⟩;have hR2:=hF.heap (by omega) hR1;have hV2:=hF.heap (by omega) hV1;have hs2:=hF.size;have hX2:=hX1.trans hF;clear hR1 hV1 hX1 hp1;clear hF
 go_wp2_with fail
 obtain⟨w3,hw⟩:∃w3,w2.alloc (.cells #[.int .i64 u.ty,.string u.fn,.int .i64 u.off,.int .i64 u.ln,.int .i64 u.col,.string u.tx] 122)=w3:=⟨_,rfl⟩
 rw[hw];have hF:Below w2.heap.size w2 w3:=by rw[←hw];exact Qab _ _
 have hT3:w3.heap[w2.heap.size]? =some (.cells #[.int .i64 u.ty,.string u.fn,.int .i64 u.off,.int .i64 u.ln,.int .i64 u.col,.string u.tx] 122 (0,0)):=by rw[←hw];exact heap_alloc_new _ _
 have hs3:w2.heap.size+1≤w3.heap.size:=by rw[←hw];simp
 clear hw;have hR3:=Bk hF hR2;have hV3:=Bk hF hV2;have hX3:=hX2.trans (.below hF);have hp3:=hp2.below hF;clear hR2 hV2 hX2 hp2;clear hF;obtain⟨c_hT_0,c_hT_1,c_hT_2,c_hT_3,c_hT_4,c_hT_5⟩:=Cl6 hT3 rfl rfl rfl rfl rfl rfl
 go_wp2_with fail
 refine(Qg2 u _).mono ?_;rintro e w4⟨rfl,hF⟩;have hR4:=Bk hF hR3;have hV4:=Bk hF hV3;have hT4:=Bk hF hT3;have hs4:=hF.size;have hX4:=hX3.trans (.below hF);have hp4:=hp3.below hF;clear hR3 hV3 hT3 hX3 hp3 c_hT_0 c_hT_1 c_hT_2 c_hT_3 c_hT_4 c_hT_5;clear hF;cases hi:(u.ty==2)with
 | true =>
  obtain⟨c_hT_0,c_hT_1,c_hT_2,c_hT_3,c_hT_4,c_hT_5⟩:=Cl6 hT4 rfl rfl rfl rfl rfl rfl
  go_wp2_with fail
  refine(n269_c hL u _ hp4.g (by omega) htz).mono ?_;rintro e w5⟨hF,hr⟩;have hR5:=Bk hF hR4;have hV5:=Bk hF hV4;have hT5:=Bk hF hT4;have hs5:=hF.size;have hX5:=hX4.trans (.below hF);have hp5:=hp4.below hF;clear hR4 hV4 hT4 hX4 hp4 c_hT_0 c_hT_1 c_hT_2 c_hT_3 c_hT_4 c_hT_5;clear hF;cases hm:L.int u.tx with
  | none =>
   rw[hm]at hr;obtain⟨n9,T9,v9,rfl⟩:=hr;have c_hV_0:=Qaa (o:=0) hV5 rfl;have lt_hV:=Qad hV5;have c_hR_0:=Qaa (o:=0) hR5 rfl;have f_hR:=Qae hR5 0;have lt_hR:=Qad hR5;have HR:=Hi (show primary L E (u::q)=none by unfold Pg.primary;simp only[tx,ty,hd,Bool.false_eq_true,if_false,if_true,hi,hm]);have HB:=Hi hR5;clear hR5;go_wp2;refine Qai (R:=w.heap.size) _ 2 3 (by kernel_rfl) rfl rfl rfl (Qac (o:=0) HB.out _) ?_
   exact(Qak HR.out (hX5.set (p:=⟨w.heap.size,0,none⟩) (.inr (show _≤w.heap.size by omega)) _))
  | some n =>
   rw[hm]at hr;obtain rfl:=hr;have HM:=Hi hm;clear hm
   go_wp2_with fail
   refine(n247_c _ _).mono ?_;rintro e w6⟨rfl,hF⟩;have hR6:=Bk hF hR5;have hV6:=Bk hF hV5;have hT6:=Bk hF hT5;have hs6:=hF.size;have hX6:=hX5.trans (.below hF);have hp6:=hp5.below hF;clear hR5 hV5 hT5 hX5 hp5;clear hF;have hz6:NodeIs w6 base (.iface 182 (.agg #[.iface 253 (.int .i64 n)])) (.val (.long n)):=.val (.long n);have c_hV_0:=Qaa (o:=0) hV6 rfl;have f_hV:=Qae hV6 0;have lt_hV:=Qad hV6;have lt_hR:=Qad hR6
   go_upto_region 51 with(fail)
   obtain⟨w7,hw⟩:∃w7,w6.setCell ⟨w.heap.size+1,0,none⟩ (.iface 182 (.agg #[.iface 253 (.int .i64 n)]))=w7:=⟨_,rfl⟩
   rw[hw];have hz7:NodeIs w7 base _ _:=hw▸hz6.store (o:=0) hV6 (by decide) (.iface 182 (.agg #[.iface 253 (.int .i64 n)]));have hR7:w7.heap[w.heap.size]? =some (.cells #[.nilIface] 299 (0,0)):=hw▸Qag (o:=0) hR6 (by omega) (.iface 182 (.agg #[.iface 253 (.int .i64 n)]));have hV7:w7.heap[w.heap.size+1]? =some (.cells #[.iface 182 (.agg #[.iface 253 (.int .i64 n)])] 299 (0,0)):=hw▸Qac (o:=0) hV6 (.iface 182 (.agg #[.iface 253 (.int .i64 n)]))
   have hT7:w7.heap[w2.heap.size]? =some (.cells #[.int .i64 u.ty,.string u.fn,.int .i64 u.off,.int .i64 u.ln,.int .i64 u.col,.string u.tx] 122 (0,0)):=hw▸Qag (o:=0) hT6 (by omega) (.iface 182 (.agg #[.iface 253 (.int .i64 n)]));have hX7:Ext (·=bp) w w7:=hw▸hX6.set (p:=⟨w.heap.size+1,0,none⟩) (.inr (show w.heap.size≤w.heap.size+1 by omega)) (.iface 182 (.agg #[.iface 253 (.int .i64 n)]));have hs7:w6.heap.size≤w7.heap.size:=by rw[←hw];simp
   have hp7:PS w7 bp base _:=hw▸hp6.set (o:=0) (show base≤w.heap.size+1 by omega) (.iface 182 (.agg #[.iface 253 (.int .i64 n)]));clear hz6 hR6 hV6 hT6 hX6 hp6 c_hV_0 f_hV lt_hV lt_hR hw;have c_hV_0:=Qaa (o:=0) hV7 rfl;have c_hR_0:=Qaa (o:=0) hR7 rfl;have f_hR:=Qae hR7 0;have lt_hR:=Qad hR7;have HR:=Hi (show primary L E (u::q)=some (.val (.long n),adv (u::q))by unfold Pg.primary;simp only[tx,ty,hd,Bool.false_eq_true,if_false,if_true,hi,HM.out])
   have HB:=Hi hR7;clear hR7;go_wp2;refine Qai (R:=w.heap.size) _ 2 3 (by kernel_rfl) rfl rfl rfl (Qac (o:=0) HB.out _) ?_;exact(Qal HR.out (hX7.set (p:=⟨w.heap.size,0,none⟩) (.inr (show _≤w.heap.size by omega)) _) (hp7.set (o:=0) (by omega) _) (NodeIs.store (o:=0) (hz7) HB.out (by decide) _))
 | false =>
  have h_i:=hi;clear hi;obtain⟨c_hT_0,c_hT_1,c_hT_2,c_hT_3,c_hT_4,c_hT_5⟩:=Cl6 hT4 rfl rfl rfl rfl rfl rfl
  go_wp2_with fail
  refine(QbY u _).mono ?_;rintro e w5⟨rfl,hF⟩;have hR5:=Bk hF hR4;have hV5:=Bk hF hV4;have hT5:=Bk hF hT4;have hs5:=hF.size;have hX5:=hX4.trans (.below hF);have hp5:=hp4.below hF;clear hR4 hV4 hT4 hX4 hp4 c_hT_0 c_hT_1 c_hT_2 c_hT_3 c_hT_4 c_hT_5;clear hF;cases hi:(u.ty==4)with
  | true =>
   obtain⟨c_hT_0,c_hT_1,c_hT_2,c_hT_3,c_hT_4,c_hT_5⟩:=Cl6 hT5 rfl rfl rfl rfl rfl rfl
   go_wp2_with fail
   refine(hL.str u _ hp5.g (by omega) htz).mono ?_;rintro e w6⟨hF,hr⟩;have hR6:=Bk hF hR5;have hV6:=Bk hF hV5;have hT6:=Bk hF hT5;have hs6:=hF.size;have hX6:=hX5.trans (.below hF);have hp6:=hp5.below hF;clear hR5 hV5 hT5 hX5 hp5 c_hT_0 c_hT_1 c_hT_2 c_hT_3 c_hT_4 c_hT_5;clear hF;cases hm:L.str u.tx with
   | none =>
    rw[hm]at hr;obtain⟨s9,T9,v9,rfl⟩:=hr;have c_hV_0:=Qaa (o:=0) hV6 rfl;have lt_hV:=Qad hV6;have c_hR_0:=Qaa (o:=0) hR6 rfl;have f_hR:=Qae hR6 0;have lt_hR:=Qad hR6;have HR:=Hi (show primary L E (u::q)=none by unfold Pg.primary;simp only[tx,ty,hd,Bool.false_eq_true,if_false,if_true,h_i,hi,hm]);have HB:=Hi hR6;clear hR6;go_wp2;refine Qai (R:=w.heap.size) _ 2 3 (by kernel_rfl) rfl rfl rfl (Qac (o:=0) HB.out _) ?_
    exact(Qak HR.out (hX6.set (p:=⟨w.heap.size,0,none⟩) (.inr (show _≤w.heap.size by omega)) _))
   | some s =>
    rw[hm]at hr;obtain⟨rfl,hsz⟩:=hr;have HM:=Hi hm;clear hm
    go_wp2_with fail
    refine(n270_c _ _).mono ?_;rintro e w7⟨rfl,hF⟩;have hR7:=Bk hF hR6;have hV7:=Bk hF hV6;have hT7:=Bk hF hT6;have hs7:=hF.size;have hX7:=hX6.trans (.below hF);have hp7:=hp6.below hF;clear hR6 hV6 hT6 hX6 hp6;clear hF;have hz7:NodeIs w7 base (.iface 182 (.agg #[.iface 131 (.string s)])) (.val (.str s)):=.val (.str s);have c_hV_0:=Qaa (o:=0) hV7 rfl;have f_hV:=Qae hV7 0;have lt_hV:=Qad hV7;have lt_hR:=Qad hR7
    go_upto_region 51 with(fail)
    obtain⟨w8,hw⟩:∃w8,w7.setCell ⟨w.heap.size+1,0,none⟩ (.iface 182 (.agg #[.iface 131 (.string s)]))=w8:=⟨_,rfl⟩
    rw[hw];have hz8:NodeIs w8 base _ _:=hw▸hz7.store (o:=0) hV7 (by decide) (.iface 182 (.agg #[.iface 131 (.string s)]));have hR8:w8.heap[w.heap.size]? =some (.cells #[.nilIface] 299 (0,0)):=hw▸Qag (o:=0) hR7 (by omega) (.iface 182 (.agg #[.iface 131 (.string s)]));have hV8:w8.heap[w.heap.size+1]? =some (.cells #[.iface 182 (.agg #[.iface 131 (.string s)])] 299 (0,0)):=hw▸Qac (o:=0) hV7 (.iface 182 (.agg #[.iface 131 (.string s)]))
    have hT8:w8.heap[w2.heap.size]? =some (.cells #[.int .i64 u.ty,.string u.fn,.int .i64 u.off,.int .i64 u.ln,.int .i64 u.col,.string u.tx] 122 (0,0)):=hw▸Qag (o:=0) hT7 (by omega) (.iface 182 (.agg #[.iface 131 (.string s)]));have hX8:Ext (·=bp) w w8:=hw▸hX7.set (p:=⟨w.heap.size+1,0,none⟩) (.inr (show w.heap.size≤w.heap.size+1 by omega)) (.iface 182 (.agg #[.iface 131 (.string s)]));have hs8:w7.heap.size≤w8.heap.size:=by rw[←hw];simp
    have hp8:PS w8 bp base _:=hw▸hp7.set (o:=0) (show base≤w.heap.size+1 by omega) (.iface 182 (.agg #[.iface 131 (.string s)]));clear hz7 hR7 hV7 hT7 hX7 hp7 c_hV_0 f_hV lt_hV lt_hR hw;have c_hV_0:=Qaa (o:=0) hV8 rfl;have c_hR_0:=Qaa (o:=0) hR8 rfl;have f_hR:=Qae hR8 0;have lt_hR:=Qad hR8;have HR:=Hi (show primary L E (u::q)=some (.val (.str s),adv (u::q))by unfold Pg.primary;simp only[tx,ty,hd,Bool.false_eq_true,if_false,if_true,h_i,hi,HM.out])
    have HB:=Hi hR8;clear hR8;go_wp2;refine Qai (R:=w.heap.size) _ 2 3 (by kernel_rfl) rfl rfl rfl (Qac (o:=0) HB.out _) ?_;exact(Qal HR.out (hX8.set (p:=⟨w.heap.size,0,none⟩) (.inr (show _≤w.heap.size by omega)) _) (hp8.set (o:=0) (by omega) _) (NodeIs.store (o:=0) (hz8) HB.out (by decide) _))
  | false =>
   have h_s:=hi;clear hi;have c_hT_5:=Qaa (o:=5) hT5 rfl;cases ht:(u.tx.toList==[116,114,117,101])with
   | true =>
    go_wp2_with fail
    refine(n271_c _).mono ?_;rintro e w6⟨rfl,hF⟩;have hR6:=Bk hF hR5;have hV6:=Bk hF hV5;have hT6:=Bk hF hT5;have hs6:=hF.size;have hX6:=hX5.trans (.below hF);have hp6:=hp5.below hF;clear hR5 hV5 hT5 hX5 hp5 c_hT_5;clear hF;have hz6:NodeIs w6 base (.iface 182 (.agg #[.iface 252 (.bool true)])) (.val (.bool true)):=.val (.bool true);have c_hV_0:=Qaa (o:=0) hV6 rfl;have f_hV:=Qae hV6 0;have lt_hV:=Qad hV6
    have lt_hR:=Qad hR6
    go_upto_region 51 with(fail)
    obtain⟨w7,hw⟩:∃w7,w6.setCell ⟨w.heap.size+1,0,none⟩ (.iface 182 (.agg #[.iface 252 (.bool true)]))=w7:=⟨_,rfl⟩
    rw[hw];have hz7:NodeIs w7 base _ _:=hw▸hz6.store (o:=0) hV6 (by decide) (.iface 182 (.agg #[.iface 252 (.bool true)]));have hR7:w7.heap[w.heap.size]? =some (.cells #[.nilIface] 299 (0,0)):=hw▸Qag (o:=0) hR6 (by omega) (.iface 182 (.agg #[.iface 252 (.bool true)]));have hV7:w7.heap[w.heap.size+1]? =some (.cells #[.iface 182 (.agg #[.iface 252 (.bool true)])] 299 (0,0)):=hw▸Qac (o:=0) hV6 (.iface 182 (.agg #[.iface 252 (.bool true)]))
    have hT7:w7.heap[w2.heap.size]? =some (.cells #[.int .i64 u.ty,.string u.fn,.int .i64 u.off,.int .i64 u.ln,.int .i64 u.col,.string u.tx] 122 (0,0)):=hw▸Qag (o:=0) hT6 (by omega) (.iface 182 (.agg #[.iface 252 (.bool true)]));have hX7:Ext (·=bp) w w7:=hw▸hX6.set (p:=⟨w.heap.size+1,0,none⟩) (.inr (show w.heap.size≤w.heap.size+1 by omega)) (.iface 182 (.agg #[.iface 252 (.bool true)]));have hs7:w6.heap.size≤w7.heap.size:=by rw[←hw];simp
    have hp7:PS w7 bp base _:=hw▸hp6.set (o:=0) (show base≤w.heap.size+1 by omega) (.iface 182 (.agg #[.iface 252 (.bool true)]));clear hz6 hR6 hV6 hT6 hX6 hp6 c_hV_0 f_hV lt_hV lt_hR hw;have c_hV_0:=Qaa (o:=0) hV7 rfl;have c_hR_0:=Qaa (o:=0) hR7 rfl;have f_hR:=Qae hR7 0;have lt_hR:=Qad hR7;have HR:=Hi (show primary L E (u::q)=some (.val (.bool true),adv (u::q))by unfold Pg.primary;simp only[tx,ty,hd,Bool.false_eq_true,if_false,if_true,h_i,h_s,ht])
    have HB:=Hi hR7;clear hR7;go_wp2;refine Qai (R:=w.heap.size) _ 2 3 (by kernel_rfl) rfl rfl rfl (Qac (o:=0) HB.out _) ?_;exact(Qal HR.out (hX7.set (p:=⟨w.heap.size,0,none⟩) (.inr (show _≤w.heap.size by omega)) _) (hp7.set (o:=0) (by omega) _) (NodeIs.store (o:=0) (hz7) HB.out (by decide) _))
   | false =>
    have h_true:=ht;clear ht;clear c_hT_5;have c_hT_5:=Qaa (o:=5) hT5 rfl;cases ht:(u.tx.toList==[102,97,108,115,101])with
    | true =>
     go_wp2_with fail
     refine(n272_c _).mono ?_;rintro e w6⟨rfl,hF⟩;have hR6:=Bk hF hR5;have hV6:=Bk hF hV5;have hT6:=Bk hF hT5;have hs6:=hF.size;have hX6:=hX5.trans (.below hF);have hp6:=hp5.below hF;clear hR5 hV5 hT5 hX5 hp5 c_hT_5;clear hF;have hz6:NodeIs w6 base (.iface 182 (.agg #[.iface 252 (.bool false)])) (.val (.bool false)):=.val (.bool false);have c_hV_0:=Qaa (o:=0) hV6 rfl;have f_hV:=Qae hV6 0;have lt_hV:=Qad hV6
     have lt_hR:=Qad hR6
     go_upto_region 51 with(fail)
     obtain⟨w7,hw⟩:∃w7,w6.setCell ⟨w.heap.size+1,0,none⟩ (.iface 182 (.agg #[.iface 252 (.bool false)]))=w7:=⟨_,rfl⟩
     rw[hw];have hz7:NodeIs w7 base _ _:=hw▸hz6.store (o:=0) hV6 (by decide) (.iface 182 (.agg #[.iface 252 (.bool false)]));have hR7:w7.heap[w.heap.size]? =some (.cells #[.nilIface] 299 (0,0)):=hw▸Qag (o:=0) hR6 (by omega) (.iface 182 (.agg #[.iface 252 (.bool false)]));have hV7:w7.heap[w.heap.size+1]? =some (.cells #[.iface 182 (.agg #[.iface 252 (.bool false)])] 299 (0,0)):=hw▸Qac (o:=0) hV6 (.iface 182 (.agg #[.iface 252 (.bool false)]))
     have hT7:w7.heap[w2.heap.size]? =some (.cells #[.int .i64 u.ty,.string u.fn,.int .i64 u.off,.int .i64 u.ln,.int .i64 u.col,.string u.tx] 122 (0,0)):=hw▸Qag (o:=0) hT6 (by omega) (.iface 182 (.agg #[.iface 252 (.bool false)]));have hX7:Ext (·=bp) w w7:=hw▸hX6.set (p:=⟨w.heap.size+1,0,none⟩) (.inr (show w.heap.size≤w.heap.size+1 by omega)) (.iface 182 (.agg #[.iface 252 (.bool false)]));have hs7:w6.heap.size≤w7.heap.size:=by rw[←hw];simp
     have hp7:PS w7 bp base _:=hw▸hp6.set (o:=0) (show base≤w.heap.size+1 by omega) (.iface 182 (.agg #[.iface 252 (.bool false)]));clear hz6 hR6 hV6 hT6 hX6 hp6 c_hV_0 f_hV lt_hV lt_hR hw;have c_hV_0:=Qaa (o:=0) hV7 rfl;have c_hR_0:=Qaa (o:=0) hR7 rfl;have f_hR:=Qae hR7 0;have lt_hR:=Qad hR7;have HR:=Hi (show primary L E (u::q)=some (.val (.bool false),adv (u::q))by unfold Pg.primary;simp only[tx,ty,hd,Bool.false_eq_true,if_false,if_true,h_i,h_s,h_true,ht])
     have HB:=Hi hR7;clear hR7;go_wp2;refine Qai (R:=w.heap.size) _ 2 3 (by kernel_rfl) rfl rfl rfl (Qac (o:=0) HB.out _) ?_;exact(Qal HR.out (hX7.set (p:=⟨w.heap.size,0,none⟩) (.inr (show _≤w.heap.size by omega)) _) (hp7.set (o:=0) (by omega) _) (NodeIs.store (o:=0) (hz7) HB.out (by decide) _))
    | false =>
     have h_false:=ht;clear ht;clear c_hT_5;obtain⟨c_hT_0,c_hT_1,c_hT_2,c_hT_3,c_hT_4,c_hT_5⟩:=Cl6 hT5 rfl rfl rfl rfl rfl rfl
     go_wp2_with fail
     refine(Qbd u _).mono ?_;rintro e w6⟨rfl,hF⟩;have hR6:=Bk hF hR5;have hV6:=Bk hF hV5;have hT6:=Bk hF hT5;have hs6:=hF.size;have hX6:=hX5.trans (.below hF);have hp6:=hp5.below hF;clear hR5 hV5 hT5 hX5 hp5 c_hT_0 c_hT_1 c_hT_2 c_hT_3 c_hT_4 c_hT_5;clear hF;cases hi:(u.ty==1)with
     | true =>
      have hlt:(adv (u::q)).length<(u::q).length:=QbZ hwf (k:=1) hi (by decide);obtain⟨u2,q2,ha2⟩:∃a b,adv (u::q)=a::b:=by
       cases h:adv (u::q)with
       | nil=>rw[h]at hwa;exact absurd rfl hwa.ne
       | cons a b=>exact⟨a,b,rfl⟩
      rw[ha2]at hwa hla hlt hp6;have HA2:=Hi ha2;clear ha2
      go_wp2_with fail
      refine(Qa7 hp6).mono ?_;rintro e w7⟨rfl,hF⟩;have hR7:=Bk hF hR6;have hV7:=Bk hF hV6;have hT7:=Bk hF hT6;have hs7:=hF.size;have hX7:=hX6.trans (.below hF);have hp7:=hp6.below hF;clear hR6 hV6 hT6 hX6 hp6;clear hF
      go_upto_region 20 with(fail)
      obtain⟨w8,hw⟩:∃w8,w7.alloc (.cells #[.int .i64 u2.ty,.string u2.fn,.int .i64 u2.off,.int .i64 u2.ln,.int .i64 u2.col,.string u2.tx] 122)=w8:=⟨_,rfl⟩
      rw[hw];have hF:Below w7.heap.size w7 w8:=by rw[←hw];exact Qab _ _
      have hP8:w8.heap[w7.heap.size]? =some (.cells #[.int .i64 u2.ty,.string u2.fn,.int .i64 u2.off,.int .i64 u2.ln,.int .i64 u2.col,.string u2.tx] 122 (0,0)):=by rw[←hw];exact heap_alloc_new _ _
      have hs8:w7.heap.size+1≤w8.heap.size:=by rw[←hw];simp
      clear hw;have hR8:=Bk hF hR7;have hV8:=Bk hF hV7;have hT8:=Bk hF hT7;have hX8:=hX7.trans (.below hF);have hp8:=hp7.below hF;clear hR7 hV7 hT7 hX7 hp7;clear hF;cases ht:(u2.tx.toList==[58,58])with
      | true =>
       have c_hP_5:=Qaa (o:=5) hP8 rfl;have c_hT_5:=Qaa (o:=5) hT8 rfl
       go_wp2_with fail
       refine(HI.out _ _ u.tx ((u::q).length+1) hp8 hwa (by omega) (by omega) (by omega) (by omega)).mono ?_;rintro e w9⟨hF,hr⟩;have hR9:=hF.heap (by omega) hR8;have hV9:=hF.heap (by omega) hV8;have hT9:=hF.heap (by omega) hT8;have hP9:=hF.heap (by omega) hP8;have hs9:=hF.size;have hX9:=hX8.trans hF;clear hR8 hV8 hT8 hP8 hX8 c_hP_5 c_hT_5;clear hF;have HPR:=Hi (show primary L E (u::q)=Qa1 L E ((u::q).length+1) u.tx (u2::q2)by unfold Pg.primary;simp only[true_or,or_true,or_false,false_or,tx,ty,hd,Bool.false_eq_true,if_false,if_true,h_i,h_s,h_true,h_false,hi,HA2.out,ht])
       cases hm:Qa1 L E ((u::q).length+1) u.tx (u2::q2)with
       | none =>
        rw[hm]at hr;obtain⟨T9,v9,rfl⟩:=hr;have c_hR_0:=Qaa (o:=0) hR9 rfl;have f_hR:=Qae hR9 0;have lt_hR:=Qad hR9;have HR:=Hi (show primary L E (u::q)=none by rw[HPR.out,hm]);have HB:=Hi hR9;clear hR9;go_wp2;refine Qai (R:=w.heap.size) _ 2 3 (by kernel_rfl) rfl rfl rfl (Qac (o:=0) HB.out _) ?_;exact(Qak HR.out (hX9.set (p:=⟨w.heap.size,0,none⟩) (.inr (show _≤w.heap.size by omega)) _))
       | some p9 =>
        obtain⟨z,zs⟩:=p9;rw[hm]at hr;obtain⟨T9,v9,rfl,hp9,hz9⟩:=hr;have HPS:=Hi (show primary L E (u::q)=some (z,zs)by rw[HPR.out,hm]);clear hm;have c_hR_0:=Qaa (o:=0) hR9 rfl;have f_hR:=Qae hR9 0;have lt_hR:=Qad hR9;have HR:=Hi (HPS.out);have HB:=Hi hR9;clear hR9;go_wp2;refine Qai (R:=w.heap.size) _ 2 3 (by kernel_rfl) rfl rfl rfl (Qac (o:=0) HB.out _) ?_;exact(Qal HR.out (hX9.set (p:=⟨w.heap.size,0,none⟩) (.inr (show _≤w.heap.size by omega)) _) (hp9.set (o:=0) (by omega) _) (NodeIs.store (o:=0) (hz9) HB.out (by decide) _))
      | false =>
       have h_c:=ht;clear ht;cases ht:(u2.tx.toList==[40])with
       | true =>
        have c_hP_5:=Qaa (o:=5) hP8 rfl;have c_hT_5:=Qaa (o:=5) hT8 rfl
        go_wp2_with fail
        refine(HI.out _ _ u.tx ((u::q).length+1) hp8 hwa (by omega) (by omega) (by omega) (by omega)).mono ?_;rintro e w9⟨hF,hr⟩;have hR9:=hF.heap (by omega) hR8;have hV9:=hF.heap (by omega) hV8;have hT9:=hF.heap (by omega) hT8;have hP9:=hF.heap (by omega) hP8;have hs9:=hF.size;have hX9:=hX8.trans hF;clear hR8 hV8 hT8 hP8 hX8 c_hP_5 c_hT_5;clear hF;have HPR:=Hi (show primary L E (u::q)=Qa1 L E ((u::q).length+1) u.tx (u2::q2)by unfold Pg.primary;simp only[true_or,or_true,or_false,false_or,tx,ty,hd,Bool.false_eq_true,if_false,if_true,h_i,h_s,h_true,h_false,h_c,hi,HA2.out,ht])
        cases hm:Qa1 L E ((u::q).length+1) u.tx (u2::q2)with
        | none =>
         rw[hm]at hr;obtain⟨T9,v9,rfl⟩:=hr;have c_hR_0:=Qaa (o:=0) hR9 rfl;have f_hR:=Qae hR9 0;have lt_hR:=Qad hR9;have HR:=Hi (show primary L E (u::q)=none by rw[HPR.out,hm]);have HB:=Hi hR9;clear hR9;go_wp2;refine Qai (R:=w.heap.size) _ 2 3 (by kernel_rfl) rfl rfl rfl (Qac (o:=0) HB.out _) ?_;exact(Qak HR.out (hX9.set (p:=⟨w.heap.size,0,none⟩) (.inr (show _≤w.heap.size by omega)) _))
        | some p9 =>
         obtain⟨z,zs⟩:=p9;rw[hm]at hr;obtain⟨T9,v9,rfl,hp9,hz9⟩:=hr;have HPS:=Hi (show primary L E (u::q)=some (z,zs)by rw[HPR.out,hm]);clear hm;have c_hR_0:=Qaa (o:=0) hR9 rfl;have f_hR:=Qae hR9 0;have lt_hR:=Qad hR9;have HR:=Hi (HPS.out);have HB:=Hi hR9;clear hR9;go_wp2;refine Qai (R:=w.heap.size) _ 2 3 (by kernel_rfl) rfl rfl rfl (Qac (o:=0) HB.out _) ?_;exact(Qal HR.out (hX9.set (p:=⟨w.heap.size,0,none⟩) (.inr (show _≤w.heap.size by omega)) _) (hp9.set (o:=0) (by omega) _) (NodeIs.store (o:=0) (hz9) HB.out (by decide) _))
       | false =>
        have h_p:=ht;clear ht;have c_hP_5:=Qaa (o:=5) hP8 rfl;have c_hT_5:=Qaa (o:=5) hT8 rfl;have HPR:=Hi (show primary L E (u::q)=(match vars u.tx.toList with
         | none=>none
         | some x=>some (x,u2::q2))by
         unfold Pg.primary;simp only[or_self,tx,ty,hd,Bool.false_eq_true,if_false,if_true,h_i,h_s,h_true,h_false,h_c,h_p,hi,HA2.out];cases vars u.tx.toList<;>rfl)
        cases ht:(u.tx.toList==[112,114,105,110,99,105,112,97,108])with
        | true =>
         go_wp2_with fail
         refine(n274_c _).mono ?_;rintro e w9⟨rfl,hF⟩;have hR9:=Bk hF hR8;have hV9:=Bk hF hV8;have hT9:=Bk hF hT8;have hP9:=Bk hF hP8;have hs9:=hF.size;have hX9:=hX8.trans (.below hF);have hp_w9:=hp8.below hF;clear hR8 hV8 hT8 hP8 hX8 hp8 c_hP_5 c_hT_5;clear hF;have hz9:NodeIs w9 base (.iface 186 (.agg #[.string (⟨#[112,114,105,110,99,105,112,97,108]⟩:ByteArray)])) (.var (⟨#[112,114,105,110,99,105,112,97,108]⟩:ByteArray)):=.var (⟨#[112,114,105,110,99,105,112,97,108]⟩:ByteArray)
         have c_hV_0:=Qaa (o:=0) hV9 rfl;have f_hV:=Qae hV9 0;have lt_hV:=Qad hV9;have lt_hR:=Qad hR9
         go_upto_region 51 with(fail)
         obtain⟨w10,hw⟩:∃w10,w9.setCell ⟨w.heap.size+1,0,none⟩ (.iface 186 (.agg #[.string (⟨#[112,114,105,110,99,105,112,97,108]⟩:ByteArray)]))=w10:=⟨_,rfl⟩
         rw[hw];have hz10:NodeIs w10 base _ _:=hw▸hz9.store (o:=0) hV9 (by decide) (.iface 186 (.agg #[.string (⟨#[112,114,105,110,99,105,112,97,108]⟩:ByteArray)]));have hR10:w10.heap[w.heap.size]? =some (.cells #[.nilIface] 299 (0,0)):=hw▸Qag (o:=0) hR9 (by omega) (.iface 186 (.agg #[.string (⟨#[112,114,105,110,99,105,112,97,108]⟩:ByteArray)]));have hV10:w10.heap[w.heap.size+1]? =some (.cells #[.iface 186 (.agg #[.string (⟨#[112,114,105,110,99,105,112,97,108]⟩:ByteArray)])] 299 (0,0)):=hw▸Qac (o:=0) hV9 (.iface 186 (.agg #[.string (⟨#[112,114,105,110,99,105,112,97,108]⟩:ByteArray)]))
         have hT10:w10.heap[w2.heap.size]? =some (.cells #[.int .i64 u.ty,.string u.fn,.int .i64 u.off,.int .i64 u.ln,.int .i64 u.col,.string u.tx] 122 (0,0)):=hw▸Qag (o:=0) hT9 (by omega) (.iface 186 (.agg #[.string (⟨#[112,114,105,110,99,105,112,97,108]⟩:ByteArray)]));have hP10:w10.heap[w7.heap.size]? =some (.cells #[.int .i64 u2.ty,.string u2.fn,.int .i64 u2.off,.int .i64 u2.ln,.int .i64 u2.col,.string u2.tx] 122 (0,0)):=hw▸Qag (o:=0) hP9 (by omega) (.iface 186 (.agg #[.string (⟨#[112,114,105,110,99,105,112,97,108]⟩:ByteArray)]))
         have hX10:Ext (·=bp) w w10:=hw▸hX9.set (p:=⟨w.heap.size+1,0,none⟩) (.inr (show w.heap.size≤w.heap.size+1 by omega)) (.iface 186 (.agg #[.string (⟨#[112,114,105,110,99,105,112,97,108]⟩:ByteArray)]));have hs10:w9.heap.size≤w10.heap.size:=by rw[←hw];simp
         have hp10:PS w10 bp base _:=hw▸hp_w9.set (o:=0) (show base≤w.heap.size+1 by omega) (.iface 186 (.agg #[.string (⟨#[112,114,105,110,99,105,112,97,108]⟩:ByteArray)]));clear hz9 hR9 hV9 hT9 hP9 hX9 hp_w9 c_hV_0 f_hV lt_hV lt_hR hw;have c_hV_0:=Qaa (o:=0) hV10 rfl;have c_hR_0:=Qaa (o:=0) hR10 rfl;have f_hR:=Qae hR10 0;have lt_hR:=Qad hR10;have HR:=Hi (show primary L E (u::q)=some (.var (⟨#[112,114,105,110,99,105,112,97,108]⟩:ByteArray),u2::q2)by rw[HPR.out];simp only[vars,ht,Bool.false_eq_true,if_false,if_true])
         have HB:=Hi hR10;clear hR10;go_wp2;refine Qai (R:=w.heap.size) _ 2 3 (by kernel_rfl) rfl rfl rfl (Qac (o:=0) HB.out _) ?_;exact(Qal HR.out (hX10.set (p:=⟨w.heap.size,0,none⟩) (.inr (show _≤w.heap.size by omega)) _) (hp10.set (o:=0) (by omega) _) (NodeIs.store (o:=0) (hz10) HB.out (by decide) _))
        | false =>
         have h_vprincipal:=ht;clear ht;cases ht:(u.tx.toList==[97,99,116,105,111,110])with
         | true =>
          go_wp2_with fail
          refine(n275_c _).mono ?_;rintro e w9⟨rfl,hF⟩;have hR9:=Bk hF hR8;have hV9:=Bk hF hV8;have hT9:=Bk hF hT8;have hP9:=Bk hF hP8;have hs9:=hF.size;have hX9:=hX8.trans (.below hF);have hp_w9:=hp8.below hF;clear hR8 hV8 hT8 hP8 hX8 hp8 c_hP_5 c_hT_5;clear hF;have hz9:NodeIs w9 base (.iface 186 (.agg #[.string (⟨#[97,99,116,105,111,110]⟩:ByteArray)])) (.var (⟨#[97,99,116,105,111,110]⟩:ByteArray)):=.var (⟨#[97,99,116,105,111,110]⟩:ByteArray)
          have c_hV_0:=Qaa (o:=0) hV9 rfl;have f_hV:=Qae hV9 0;have lt_hV:=Qad hV9;have lt_hR:=Qad hR9
          go_upto_region 51 with(fail)
          obtain⟨w10,hw⟩:∃w10,w9.setCell ⟨w.heap.size+1,0,none⟩ (.iface 186 (.agg #[.string (⟨#[97,99,116,105,111,110]⟩:ByteArray)]))=w10:=⟨_,rfl⟩
          rw[hw];have hz10:NodeIs w10 base _ _:=hw▸hz9.store (o:=0) hV9 (by decide) (.iface 186 (.agg #[.string (⟨#[97,99,116,105,111,110]⟩:ByteArray)]));have hR10:w10.heap[w.heap.size]? =some (.cells #[.nilIface] 299 (0,0)):=hw▸Qag (o:=0) hR9 (by omega) (.iface 186 (.agg #[.string (⟨#[97,99,116,105,111,110]⟩:ByteArray)]));have hV10:w10.heap[w.heap.size+1]? =some (.cells #[.iface 186 (.agg #[.string (⟨#[97,99,116,105,111,110]⟩:ByteArray)])] 299 (0,0)):=hw▸Qac (o:=0) hV9 (.iface 186 (.agg #[.string (⟨#[97,99,116,105,111,110]⟩:ByteArray)]))
          have hT10:w10.heap[w2.heap.size]? =some (.cells #[.int .i64 u.ty,.string u.fn,.int .i64 u.off,.int .i64 u.ln,.int .i64 u.col,.string u.tx] 122 (0,0)):=hw▸Qag (o:=0) hT9 (by omega) (.iface 186 (.agg #[.string (⟨#[97,99,116,105,111,110]⟩:ByteArray)]));have hP10:w10.heap[w7.heap.size]? =some (.cells #[.int .i64 u2.ty,.string u2.fn,.int .i64 u2.off,.int .i64 u2.ln,.int .i64 u2.col,.string u2.tx] 122 (0,0)):=hw▸Qag (o:=0) hP9 (by omega) (.iface 186 (.agg #[.string (⟨#[97,99,116,105,111,110]⟩:ByteArray)]))
          have hX10:Ext (·=bp) w w10:=hw▸hX9.set (p:=⟨w.heap.size+1,0,none⟩) (.inr (show w.heap.size≤w.heap.size+1 by omega)) (.iface 186 (.agg #[.string (⟨#[97,99,116,105,111,110]⟩:ByteArray)]));have hs10:w9.heap.size≤w10.heap.size:=by rw[←hw];simp
          have hp10:PS w10 bp base _:=hw▸hp_w9.set (o:=0) (show base≤w.heap.size+1 by omega) (.iface 186 (.agg #[.string (⟨#[97,99,116,105,111,110]⟩:ByteArray)]));clear hz9 hR9 hV9 hT9 hP9 hX9 hp_w9 c_hV_0 f_hV lt_hV lt_hR hw;have c_hV_0:=Qaa (o:=0) hV10 rfl;have c_hR_0:=Qaa (o:=0) hR10 rfl;have f_hR:=Qae hR10 0;have lt_hR:=Qad hR10;have HR:=Hi (show primary L E (u::q)=some (.var (⟨#[97,99,116,105,111,110]⟩:ByteArray),u2::q2)by rw[HPR.out];simp only[vars,h_vprincipal,ht,Bool.false_eq_true,if_false,if_true])
          have HB:=Hi hR10;clear hR10;go_wp2;refine Qai (R:=w.heap.size) _ 2 3 (by kernel_rfl) rfl rfl rfl (Qac (o:=0) HB.out _) ?_;exact(Qal HR.out (hX10.set (p:=⟨w.heap.size,0,none⟩) (.inr (show _≤w.heap.size by omega)) _) (hp10.set (o:=0) (by omega) _) (NodeIs.store (o:=0) (hz10) HB.out (by decide) _))
         | false =>
          have h_vaction:=ht;clear ht;cases ht:(u.tx.toList==[114,101,115,111,117,114,99,101])with
          | true =>
           go_wp2_with fail
           refine(n276_c _).mono ?_;rintro e w9⟨rfl,hF⟩;have hR9:=Bk hF hR8;have hV9:=Bk hF hV8;have hT9:=Bk hF hT8;have hP9:=Bk hF hP8;have hs9:=hF.size;have hX9:=hX8.trans (.below hF);have hp_w9:=hp8.below hF;clear hR8 hV8 hT8 hP8 hX8 hp8 c_hP_5 c_hT_5;clear hF;have hz9:NodeIs w9 base (.iface 186 (.agg #[.string (⟨#[114,101,115,111,117,114,99,101]⟩:ByteArray)])) (.var (⟨#[114,101,115,111,117,114,99,101]⟩:ByteArray)):=.var (⟨#[114,101,115,111,117,114,99,101]⟩:ByteArray)
           have c_hV_0:=Qaa (o:=0) hV9 rfl;have f_hV:=Qae hV9 0;have lt_hV:=Qad hV9;have lt_hR:=Qad hR9
           go_upto_region 51 with(fail)
           obtain⟨w10,hw⟩:∃w10,w9.setCell ⟨w.heap.size+1,0,none⟩ (.iface 186 (.agg #[.string (⟨#[114,101,115,111,117,114,99,101]⟩:ByteArray)]))=w10:=⟨_,rfl⟩
           rw[hw];have hz10:NodeIs w10 base _ _:=hw▸hz9.store (o:=0) hV9 (by decide) (.iface 186 (.agg #[.string (⟨#[114,101,115,111,117,114,99,101]⟩:ByteArray)]));have hR10:w10.heap[w.heap.size]? =some (.cells #[.nilIface] 299 (0,0)):=hw▸Qag (o:=0) hR9 (by omega) (.iface 186 (.agg #[.string (⟨#[114,101,115,111,117,114,99,101]⟩:ByteArray)]));have hV10:w10.heap[w.heap.size+1]? =some (.cells #[.iface 186 (.agg #[.string (⟨#[114,101,115,111,117,114,99,101]⟩:ByteArray)])] 299 (0,0)):=hw▸Qac (o:=0) hV9 (.iface 186 (.agg #[.string (⟨#[114,101,115,111,117,114,99,101]⟩:ByteArray)]))
           have hT10:w10.heap[w2.heap.size]? =some (.cells #[.int .i64 u.ty,.string u.fn,.int .i64 u.off,.int .i64 u.ln,.int .i64 u.col,.string u.tx] 122 (0,0)):=hw▸Qag (o:=0) hT9 (by omega) (.iface 186 (.agg #[.string (⟨#[114,101,115,111,117,114,99,101]⟩:ByteArray)]));have hP10:w10.heap[w7.heap.size]? =some (.cells #[.int .i64 u2.ty,.string u2.fn,.int .i64 u2.off,.int .i64 u2.ln,.int .i64 u2.col,.string u2.tx] 122 (0,0)):=hw▸Qag (o:=0) hP9 (by omega) (.iface 186 (.agg #[.string (⟨#[114,101,115,111,117,114,99,101]⟩:ByteArray)]))
           have hX10:Ext (·=bp) w w10:=hw▸hX9.set (p:=⟨w.heap.size+1,0,none⟩) (.inr (show w.heap.size≤w.heap.size+1 by omega)) (.iface 186 (.agg #[.string (⟨#[114,101,115,111,117,114,99,101]⟩:ByteArray)]));have hs10:w9.heap.size≤w10.heap.size:=by rw[←hw];simp
           have hp10:PS w10 bp base _:=hw▸hp_w9.set (o:=0) (show base≤w.heap.size+1 by omega) (.iface 186 (.agg #[.string (⟨#[114,101,115,111,117,114,99,101]⟩:ByteArray)]));clear hz9 hR9 hV9 hT9 hP9 hX9 hp_w9 c_hV_0 f_hV lt_hV lt_hR hw;have c_hV_0:=Qaa (o:=0) hV10 rfl;have c_hR_0:=Qaa (o:=0) hR10 rfl;have f_hR:=Qae hR10 0;have lt_hR:=Qad hR10;have HR:=Hi (show primary L E (u::q)=some (.var (⟨#[114,101,115,111,117,114,99,101]⟩:ByteArray),u2::q2)by rw[HPR.out];simp only[vars,h_vprincipal,h_vaction,ht,Bool.false_eq_true,if_false,if_true])
           have HB:=Hi hR10;clear hR10;go_wp2;refine Qai (R:=w.heap.size) _ 2 3 (by kernel_rfl) rfl rfl rfl (Qac (o:=0) HB.out _) ?_;exact(Qal HR.out (hX10.set (p:=⟨w.heap.size,0,none⟩) (.inr (show _≤w.heap.size by omega)) _) (hp10.set (o:=0) (by omega) _) (NodeIs.store (o:=0) (hz10) HB.out (by decide) _))
          | false =>
           have h_vresource:=ht;clear ht;cases ht:(u.tx.toList==[99,111,110,116,101,120,116])with
           | true =>
            go_wp2_with fail
            refine(n277_c _).mono ?_;rintro e w9⟨rfl,hF⟩;have hR9:=Bk hF hR8;have hV9:=Bk hF hV8;have hT9:=Bk hF hT8;have hP9:=Bk hF hP8;have hs9:=hF.size;have hX9:=hX8.trans (.below hF);have hp_w9:=hp8.below hF;clear hR8 hV8 hT8 hP8 hX8 hp8 c_hP_5 c_hT_5;clear hF;have hz9:NodeIs w9 base (.iface 186 (.agg #[.string (⟨#[99,111,110,116,101,120,116]⟩:ByteArray)])) (.var (⟨#[99,111,110,116,101,120,116]⟩:ByteArray)):=.var (⟨#[99,111,110,116,101,120,116]⟩:ByteArray)
            have c_hV_0:=Qaa (o:=0) hV9 rfl;have f_hV:=Qae hV9 0;have lt_hV:=Qad hV9;have lt_hR:=Qad hR9
            go_upto_region 51 with(fail)
            obtain⟨w10,hw⟩:∃w10,w9.setCell ⟨w.heap.size+1,0,none⟩ (.iface 186 (.agg #[.string (⟨#[99,111,110,116,101,120,116]⟩:ByteArray)]))=w10:=⟨_,rfl⟩
            rw[hw];have hz10:NodeIs w10 base _ _:=hw▸hz9.store (o:=0) hV9 (by decide) (.iface 186 (.agg #[.string (⟨#[99,111,110,116,101,120,116]⟩:ByteArray)]));have hR10:w10.heap[w.heap.size]? =some (.cells #[.nilIface] 299 (0,0)):=hw▸Qag (o:=0) hR9 (by omega) (.iface 186 (.agg #[.string (⟨#[99,111,110,116,101,120,116]⟩:ByteArray)]));have hV10:w10.heap[w.heap.size+1]? =some (.cells #[.iface 186 (.agg #[.string (⟨#[99,111,110,116,101,120,116]⟩:ByteArray)])] 299 (0,0)):=hw▸Qac (o:=0) hV9 (.iface 186 (.agg #[.string (⟨#[99,111,110,116,101,120,116]⟩:ByteArray)]))
            have hT10:w10.heap[w2.heap.size]? =some (.cells #[.int .i64 u.ty,.string u.fn,.int .i64 u.off,.int .i64 u.ln,.int .i64 u.col,.string u.tx] 122 (0,0)):=hw▸Qag (o:=0) hT9 (by omega) (.iface 186 (.agg #[.string (⟨#[99,111,110,116,101,120,116]⟩:ByteArray)]));have hP10:w10.heap[w7.heap.size]? =some (.cells #[.int .i64 u2.ty,.string u2.fn,.int .i64 u2.off,.int .i64 u2.ln,.int .i64 u2.col,.string u2.tx] 122 (0,0)):=hw▸Qag (o:=0) hP9 (by omega) (.iface 186 (.agg #[.string (⟨#[99,111,110,116,101,120,116]⟩:ByteArray)]))
            have hX10:Ext (·=bp) w w10:=hw▸hX9.set (p:=⟨w.heap.size+1,0,none⟩) (.inr (show w.heap.size≤w.heap.size+1 by omega)) (.iface 186 (.agg #[.string (⟨#[99,111,110,116,101,120,116]⟩:ByteArray)]));have hs10:w9.heap.size≤w10.heap.size:=by rw[←hw];simp
            have hp10:PS w10 bp base _:=hw▸hp_w9.set (o:=0) (show base≤w.heap.size+1 by omega) (.iface 186 (.agg #[.string (⟨#[99,111,110,116,101,120,116]⟩:ByteArray)]));clear hz9 hR9 hV9 hT9 hP9 hX9 hp_w9 c_hV_0 f_hV lt_hV lt_hR hw;have c_hV_0:=Qaa (o:=0) hV10 rfl;have c_hR_0:=Qaa (o:=0) hR10 rfl;have f_hR:=Qae hR10 0;have lt_hR:=Qad hR10;have HR:=Hi (show primary L E (u::q)=some (.var (⟨#[99,111,110,116,101,120,116]⟩:ByteArray),u2::q2)by rw[HPR.out];simp only[vars,h_vprincipal,h_vaction,h_vresource,ht,Bool.false_eq_true,if_false,if_true])
            have HB:=Hi hR10;clear hR10;go_wp2;refine Qai (R:=w.heap.size) _ 2 3 (by kernel_rfl) rfl rfl rfl (Qac (o:=0) HB.out _) ?_;exact(Qal HR.out (hX10.set (p:=⟨w.heap.size,0,none⟩) (.inr (show _≤w.heap.size by omega)) _) (hp10.set (o:=0) (by omega) _) (NodeIs.store (o:=0) (hz10) HB.out (by decide) _))
           | false =>
            have h_vcontext:=ht;clear ht;have c_hR_0:=Qaa (o:=0) hR8 rfl;have c_hV_0:=Qaa (o:=0) hV8 rfl;have lt_hR:=Qad hR8;have lt_hV:=Qad hV8;have HR:=Hi (show primary L E (u::q)=none by rw[HPR.out];simp only[vars,h_vprincipal,h_vaction,h_vresource,h_vcontext,Bool.false_eq_true,if_false]);have HB:=Hi (And.intro hR8 hV8);clear hR8 hV8 hT8 hP8
            go_upto_region 23 with(fail)
            go_region_with(go_at_call 95;refine(QbS (w0:=w8) hp8 (Ext.refl _ _).drew _ _).mono ?_;rintro e wq ⟨T7,v7,rfl,hq⟩;have cq1:=hq.cell (fun k=>k) c_hV_0;have cq2:=hq.cell (fun k=>k) c_hR_0;have cq3:=Qae (hq.heap (fun k=>k) HB.out.1) 0)
            all_goals go_wp2
            all_goals refine Qai (R:=w.heap.size) _ 2 3 (by kernel_rfl) rfl rfl rfl (Qac (o:=0) (hq.heap (fun k=>k) HB.out.1) _) ?_
            all_goals exact Qak HR.out ((hX8.trans' hq (fun _ k=>k.elim)).set (p:=⟨w.heap.size,0,none⟩) (.inr (Nat.le_refl _)) _)
     | false =>
      have h_n:=hi;clear hi;have c_hT_5:=Qaa (o:=5) hT6 rfl;cases ht:(u.tx.toList==[40])with
      | true =>
       have hlt:(adv (u::q)).length<(u::q).length:=Qax hwf (s:=[40]) ht (by decide)
       go_wp2_with fail
       refine(HC.out _ _ hp6 hwa (by omega) (by omega)).mono ?_;rintro e w7⟨hF,hr⟩;have hR7:=hF.heap (by omega) hR6;have hV7:=hF.heap (by omega) hV6;have hT7:=hF.heap (by omega) hT6;have hs7:=hF.size;have hX7:=hX6.trans hF;clear hR6 hV6 hT6 hX6 c_hT_5;clear hF;cases hm:E (adv (u::q))with
       | none =>
        rw[hm]at hr;obtain⟨T9,v9,rfl⟩:=hr;have c_hV_0:=Qaa (o:=0) hV7 rfl;have lt_hV:=Qad hV7;have c_hR_0:=Qaa (o:=0) hR7 rfl;have f_hR:∀o,(w7.alloc o).frozen? ⟨w.heap.size,0,none⟩=false:=fun o=>Qae (Qaf hR7 o) 0
        have lt_hR:=Qad hR7;have HR:=Hi (show primary L E (u::q)=none by unfold Pg.primary;simp only[tx,ty,hd,Bool.false_eq_true,if_false,if_true,h_i,h_s,h_true,h_false,h_n,ht,hm]);have HB:=Hi hR7;clear hR7;go_wp2;refine Qai (R:=w.heap.size) _ 2 3 (by kernel_rfl) rfl rfl rfl (Qaf (Qac (o:=0) HB.out _) _) ?_;exact(Qak HR.out ((hX7.set (p:=⟨w.heap.size,0,none⟩) (.inr (show _≤w.heap.size by omega)) _).alloc _))
       | some p9 =>
        obtain⟨z,zs⟩:=p9;rw[hm]at hr;obtain⟨T9,v9,rfl,hp9,hz7⟩:=hr;have hwz:=(HE.out _ _ _ hwa hm).1.wf hwa;have HM:=Hi hm;clear hm;obtain⟨u2,q2,rfl⟩:∃u q,zs=u::q:=by cases zs with | nil=>exact absurd rfl hp9.ne | cons u q=>exact⟨u,q,rfl⟩
        go_upto_region 34 with(fail)
        obtain⟨w8,hw⟩:∃w8,w7.alloc (.cells #[.iface T9 v9] 299)=w8:=⟨_,rfl⟩
        rw[hw];have hF:Below w7.heap.size w7 w8:=by rw[←hw];exact Qab _ _
        have hB8:w8.heap[w7.heap.size]? =some (.cells #[.iface T9 v9] 299 (0,0)):=by rw[←hw];exact heap_alloc_new _ _
        have hs8:w7.heap.size+1≤w8.heap.size:=by rw[←hw];simp
        clear hw;have hz8:=hz7.later hF;have hR8:=Bk hF hR7;have hV8:=Bk hF hV7;have hT8:=Bk hF hT7;have hX8:=hX7.trans (.below hF);have hp8:=hp9.below hF;clear hz7 hR7 hV7 hT7 hX7 hp9;clear hF;cases hj:(u2.tx.toList==[41])with
        | false =>
         go_wp2_with fail
         refine(Qa9 hp8 hj).mono ?_;rintro e w9⟨T8,v8,rfl,hp_w9,hF⟩;have hz9:=hz8.keep hF (fun d hd=>by omega);have hR9:=hF.heap (by omega) hR8;have hV9:=hF.heap (by omega) hV8;have hT9:=hF.heap (by omega) hT8;have hB9:=hF.heap (by omega) hB8;have hs9:=hF.size;have hX9:=hX8.trans hF;clear hz8 hR8 hV8 hT8 hB8 hX8 hp8;clear hF;have c_hV_0:=Qaa (o:=0) hV9 rfl;have lt_hV:=Qad hV9;have c_hR_0:=Qaa (o:=0) hR9 rfl
         have f_hR:=Qae hR9 0;have lt_hR:=Qad hR9;have HR:=Hi (show primary L E (u::q)=none by unfold Pg.primary;simp only[tx,ty,hd,Bool.false_eq_true,if_false,if_true,h_i,h_s,h_true,h_false,h_n,ht,HM.out,exact,hj]);have HB:=Hi hR9;clear hR9;go_wp2;refine Qai (R:=w.heap.size) _ 2 3 (by kernel_rfl) rfl rfl rfl (Qac (o:=0) HB.out _) ?_;exact(Qak HR.out (hX9.set (p:=⟨w.heap.size,0,none⟩) (.inr (show _≤w.heap.size by omega)) _))
        | true =>
         go_wp2_with fail
         refine(Qa0 hp8 hj).mono ?_;rintro e w9⟨rfl,hp_w9,hF⟩;have hz9:=hz8.keep hF (fun d hd=>by omega);have hR9:=hF.heap (by omega) hR8;have hV9:=hF.heap (by omega) hV8;have hT9:=hF.heap (by omega) hT8;have hB9:=hF.heap (by omega) hB8;have hs9:=hF.size;have hX9:=hX8.trans hF;clear hz8 hR8 hV8 hT8 hB8 hX8 hp8;clear hF;have c_hB_0:=Qaa (o:=0) hB9 rfl;have c_hV_0:=Qaa (o:=0) hV9 rfl;have f_hV:=Qae hV9 0
         have lt_hV:=Qad hV9;have lt_hR:=Qad hR9
         go_upto_region 51 with(fail)
         obtain⟨w10,hw⟩:∃w10,w9.setCell ⟨w.heap.size+1,0,none⟩ (.iface T9 (v9))=w10:=⟨_,rfl⟩
         rw[hw];have hz10:NodeIs w10 base _ _:=hw▸hz9.store (o:=0) hV9 (by decide) (.iface T9 (v9));have hR10:w10.heap[w.heap.size]? =some (.cells #[.nilIface] 299 (0,0)):=hw▸Qag (o:=0) hR9 (by omega) (.iface T9 (v9));have hV10:w10.heap[w.heap.size+1]? =some (.cells #[.iface T9 (v9)] 299 (0,0)):=hw▸Qac (o:=0) hV9 (.iface T9 (v9));have hT10:w10.heap[w2.heap.size]? =some (.cells #[.int .i64 u.ty,.string u.fn,.int .i64 u.off,.int .i64 u.ln,.int .i64 u.col,.string u.tx] 122 (0,0)):=hw▸Qag (o:=0) hT9 (by omega) (.iface T9 (v9))
         have hB10:w10.heap[w7.heap.size]? =some (.cells #[.iface T9 v9] 299 (0,0)):=hw▸Qag (o:=0) hB9 (by omega) (.iface T9 (v9));have hX10:Ext (·=bp) w w10:=hw▸hX9.set (p:=⟨w.heap.size+1,0,none⟩) (.inr (show w.heap.size≤w.heap.size+1 by omega)) (.iface T9 (v9));have hs10:w9.heap.size≤w10.heap.size:=by rw[←hw];simp
         have hp10:PS w10 bp base _:=hw▸hp_w9.set (o:=0) (show base≤w.heap.size+1 by omega) (.iface T9 (v9));clear hz9 hR9 hV9 hT9 hB9 hX9 hp_w9 c_hB_0 c_hV_0 f_hV lt_hV lt_hR hw;have c_hV_0:=Qaa (o:=0) hV10 rfl;have c_hR_0:=Qaa (o:=0) hR10 rfl;have f_hR:=Qae hR10 0;have lt_hR:=Qad hR10;have HR:=Hi (show primary L E (u::q)=some (z,adv (u2::q2))by unfold Pg.primary;simp only[tx,ty,hd,Bool.false_eq_true,if_false,if_true,h_i,h_s,h_true,h_false,h_n,ht,HM.out,exact,hj])
         have HB:=Hi hR10;clear hR10;go_wp2;refine Qai (R:=w.heap.size) _ 2 3 (by kernel_rfl) rfl rfl rfl (Qac (o:=0) HB.out _) ?_;exact(Qal HR.out (hX10.set (p:=⟨w.heap.size,0,none⟩) (.inr (show _≤w.heap.size by omega)) _) (hp10.set (o:=0) (by omega) _) (NodeIs.store (o:=0) (hz10) HB.out (by decide) _))
      | false =>
       have h_b:=ht;clear ht;cases ht:(u.tx.toList==[91])with
       | true =>
        have hlt:(adv (u::q)).length<(u::q).length:=Qax hwf (s:=[91]) ht (by decide)
        go_wp2_with fail
        refine(HX.out _ _ hp6 hwa (by omega) (by omega)).mono ?_;rintro e w7⟨hF,hr⟩;have hR7:=hF.heap (by omega) hR6;have hV7:=hF.heap (by omega) hV6;have hT7:=hF.heap (by omega) hT6;have hs7:=hF.size;have hX7:=hX6.trans hF;clear hR6 hV6 hT6 hX6 c_hT_5;clear hF;cases hm:Qbr E [93] (adv (u::q))with
        | none =>
         rw[hm]at hr;obtain⟨s9,T9,v9,rfl⟩:=hr;have c_hV_0:=Qaa (o:=0) hV7 rfl;have lt_hV:=Qad hV7;have c_hR_0:=Qaa (o:=0) hR7 rfl;have f_hR:=Qae hR7 0;have lt_hR:=Qad hR7;have HR:=Hi (show primary L E (u::q)=none by unfold Pg.primary;simp only[tx,ty,hd,Bool.false_eq_true,if_false,if_true,h_i,h_s,h_true,h_false,h_n,h_b,ht,hm]);have HB:=Hi hR7;clear hR7;go_wp2;refine Qai (R:=w.heap.size) _ 2 3 (by kernel_rfl) rfl rfl rfl (Qac (o:=0) HB.out _) ?_
         exact(Qak HR.out (hX7.set (p:=⟨w.heap.size,0,none⟩) (.inr (show _≤w.heap.size by omega)) _))
        | some p9 =>
         obtain⟨l,zs⟩:=p9;rw[hm]at hr;obtain⟨s9,vals,rfl,hp9,hO7,hm7,hll⟩:=hr;have HM:=Hi hm;clear hm;obtain⟨u2,q2,rfl⟩:∃u q,zs=u::q:=by cases zs with | nil=>exact absurd rfl hp9.ne | cons u q=>exact⟨u,q,rfl⟩
         go_wp2_with fail
         refine(Qaz hp9).mono ?_;rintro e w8⟨rfl,hp8,hF⟩;have hm8:=hm7.keep hF (fun d hd=>by omega);have hR8:=hF.heap (by omega) hR7;have hV8:=hF.heap (by omega) hV7;have hT8:=hF.heap (by omega) hT7;have hO8:=Qaj hO7 hF (fun d hd=>by omega);have hs8:=hF.size;have hX8:=hX7.trans hF;clear hm7 hR7 hV7 hT7 hO7 hX7 hp9;clear hF
         go_wp2_with fail
         refine(set_c (by omega) hO8 hm8 hll).mono ?_;rintro e w9⟨hF,T9,v9,rfl,hz9⟩;clear hm8 hO8;have hR9:=Bk hF hR8;have hV9:=Bk hF hV8;have hT9:=Bk hF hT8;have hs9:=hF.size;have hX9:=hX8.trans (.below hF);have hp_w9:=hp8.below hF;clear hR8 hV8 hT8 hX8 hp8;clear hF;have c_hV_0:=Qaa (o:=0) hV9 rfl;have f_hV:=Qae hV9 0;have lt_hV:=Qad hV9;have lt_hR:=Qad hR9
         go_upto_region 51 with(fail)
         obtain⟨w10,hw⟩:∃w10,w9.setCell ⟨w.heap.size+1,0,none⟩ (.iface T9 (v9))=w10:=⟨_,rfl⟩
         rw[hw];have hz10:NodeIs w10 base _ _:=hw▸hz9.store (o:=0) hV9 (by decide) (.iface T9 (v9));have hR10:w10.heap[w.heap.size]? =some (.cells #[.nilIface] 299 (0,0)):=hw▸Qag (o:=0) hR9 (by omega) (.iface T9 (v9));have hV10:w10.heap[w.heap.size+1]? =some (.cells #[.iface T9 (v9)] 299 (0,0)):=hw▸Qac (o:=0) hV9 (.iface T9 (v9));have hT10:w10.heap[w2.heap.size]? =some (.cells #[.int .i64 u.ty,.string u.fn,.int .i64 u.off,.int .i64 u.ln,.int .i64 u.col,.string u.tx] 122 (0,0)):=hw▸Qag (o:=0) hT9 (by omega) (.iface T9 (v9))
         have hX10:Ext (·=bp) w w10:=hw▸hX9.set (p:=⟨w.heap.size+1,0,none⟩) (.inr (show w.heap.size≤w.heap.size+1 by omega)) (.iface T9 (v9));have hs10:w9.heap.size≤w10.heap.size:=by rw[←hw];simp
         have hp10:PS w10 bp base _:=hw▸hp_w9.set (o:=0) (show base≤w.heap.size+1 by omega) (.iface T9 (v9));clear hz9 hR9 hV9 hT9 hX9 hp_w9 c_hV_0 f_hV lt_hV lt_hR hw;have c_hV_0:=Qaa (o:=0) hV10 rfl;have c_hR_0:=Qaa (o:=0) hR10 rfl;have f_hR:=Qae hR10 0;have lt_hR:=Qad hR10;have HR:=Hi (show primary L E (u::q)=some (.set l,adv (u2::q2))by unfold Pg.primary;simp only[tx,ty,hd,Bool.false_eq_true,if_false,if_true,h_i,h_s,h_true,h_false,h_n,h_b,ht,HM.out])
         have HB:=Hi hR10;clear hR10;go_wp2;refine Qai (R:=w.heap.size) _ 2 3 (by kernel_rfl) rfl rfl rfl (Qac (o:=0) HB.out _) ?_;exact(Qal HR.out (hX10.set (p:=⟨w.heap.size,0,none⟩) (.inr (show _≤w.heap.size by omega)) _) (hp10.set (o:=0) (by omega) _) (NodeIs.store (o:=0) (hz10) HB.out (by decide) _))
       | false =>
        have h_e:=ht;clear ht;cases ht:(u.tx.toList==[123])with
        | true =>
         have hlt:(adv (u::q)).length<(u::q).length:=Qax hwf (s:=[123]) ht (by decide)
         go_wp2_with fail
         refine(HRC.out _ _ hp6 hwa (by omega) (by omega)).mono ?_;rintro e w7⟨hF,hr⟩;have hR7:=hF.heap (by omega) hR6;have hV7:=hF.heap (by omega) hV6;have hT7:=hF.heap (by omega) hT6;have hs7:=hF.size;have hX7:=hX6.trans hF;clear hR6 hV6 hT6 hX6 c_hT_5;clear hF;have HPR:=Hi (show primary L E (u::q)=recE L E (adv (u::q))by unfold Pg.primary;simp only[tx,ty,hd,Bool.false_eq_true,if_false,if_true,h_i,h_s,h_true,h_false,h_n,h_b,h_e,ht];unfold recE;cases recd L E (adv (u::q))<;>rfl)
         cases hm:recE L E (adv (u::q))with
         | none =>
          rw[hm]at hr;obtain⟨T9,v9,rfl⟩:=hr;have c_hV_0:=Qaa (o:=0) hV7 rfl;have lt_hV:=Qad hV7;have c_hR_0:=Qaa (o:=0) hR7 rfl;have f_hR:∀o,(w7.alloc o).frozen? ⟨w.heap.size,0,none⟩=false:=fun o=>Qae (Qaf hR7 o) 0
          have lt_hR:=Qad hR7;have HR:=Hi (show primary L E (u::q)=none by rw[HPR.out,hm]);have HB:=Hi hR7;clear hR7;go_wp2;refine Qai (R:=w.heap.size) _ 2 3 (by kernel_rfl) rfl rfl rfl (Qaf (Qac (o:=0) HB.out _) _) ?_;exact(Qak HR.out ((hX7.set (p:=⟨w.heap.size,0,none⟩) (.inr (show _≤w.heap.size by omega)) _).alloc _))
         | some p9 =>
          obtain⟨z,zs⟩:=p9;rw[hm]at hr;obtain⟨T9,v9,rfl,hp9,hz7⟩:=hr;have HPS:=Hi (show primary L E (u::q)=some (z,zs)by rw[HPR.out,hm]);clear hm
          go_upto_region 48 with(fail)
          obtain⟨w8,hw⟩:∃w8,w7.alloc (.cells #[.iface T9 v9] 299)=w8:=⟨_,rfl⟩
          rw[hw];have hF:Below w7.heap.size w7 w8:=by rw[←hw];exact Qab _ _
          have hB8:w8.heap[w7.heap.size]? =some (.cells #[.iface T9 v9] 299 (0,0)):=by rw[←hw];exact heap_alloc_new _ _
          have hs8:w7.heap.size+1≤w8.heap.size:=by rw[←hw];simp
          clear hw;have hz8:=hz7.later hF;have hR8:=Bk hF hR7;have hV8:=Bk hF hV7;have hT8:=Bk hF hT7;have hX8:=hX7.trans (.below hF);have hp8:=hp9.below hF;clear hz7 hR7 hV7 hT7 hX7 hp9;clear hF;have c_hB_0:=Qaa (o:=0) hB8 rfl;have c_hV_0:=Qaa (o:=0) hV8 rfl;have f_hV:=Qae hV8 0;have lt_hV:=Qad hV8;have lt_hR:=Qad hR8
          go_upto_region 51 with(fail)
          obtain⟨w9,hw⟩:∃w9,w8.setCell ⟨w.heap.size+1,0,none⟩ (.iface T9 (v9))=w9:=⟨_,rfl⟩
          rw[hw];have hz9:NodeIs w9 base _ _:=hw▸hz8.store (o:=0) hV8 (by decide) (.iface T9 (v9));have hR9:w9.heap[w.heap.size]? =some (.cells #[.nilIface] 299 (0,0)):=hw▸Qag (o:=0) hR8 (by omega) (.iface T9 (v9));have hV9:w9.heap[w.heap.size+1]? =some (.cells #[.iface T9 (v9)] 299 (0,0)):=hw▸Qac (o:=0) hV8 (.iface T9 (v9));have hT9:w9.heap[w2.heap.size]? =some (.cells #[.int .i64 u.ty,.string u.fn,.int .i64 u.off,.int .i64 u.ln,.int .i64 u.col,.string u.tx] 122 (0,0)):=hw▸Qag (o:=0) hT8 (by omega) (.iface T9 (v9))
          have hB9:w9.heap[w7.heap.size]? =some (.cells #[.iface T9 v9] 299 (0,0)):=hw▸Qag (o:=0) hB8 (by omega) (.iface T9 (v9));have hX9:Ext (·=bp) w w9:=hw▸hX8.set (p:=⟨w.heap.size+1,0,none⟩) (.inr (show w.heap.size≤w.heap.size+1 by omega)) (.iface T9 (v9));have hs9:w8.heap.size≤w9.heap.size:=by rw[←hw];simp
          have hp_w9:PS w9 bp base _:=hw▸hp8.set (o:=0) (show base≤w.heap.size+1 by omega) (.iface T9 (v9));clear hz8 hR8 hV8 hT8 hB8 hX8 hp8 c_hB_0 c_hV_0 f_hV lt_hV lt_hR hw;have c_hV_0:=Qaa (o:=0) hV9 rfl;have c_hR_0:=Qaa (o:=0) hR9 rfl;have f_hR:=Qae hR9 0;have lt_hR:=Qad hR9;have HR:=Hi (HPS.out);have HB:=Hi hR9;clear hR9;go_wp2;refine Qai (R:=w.heap.size) _ 2 3 (by kernel_rfl) rfl rfl rfl (Qac (o:=0) HB.out _) ?_
          exact(Qal HR.out (hX9.set (p:=⟨w.heap.size,0,none⟩) (.inr (show _≤w.heap.size by omega)) _) (hp_w9.set (o:=0) (by omega) _) (NodeIs.store (o:=0) (hz9) HB.out (by decide) _))
        | false =>
         have h_k:=ht;clear ht;have c_hR_0:=Qaa (o:=0) hR6 rfl;have c_hV_0:=Qaa (o:=0) hV6 rfl;have lt_hR:=Qad hR6;have lt_hV:=Qad hV6;have HR:=Hi (show primary L E (u::q)=none by unfold Pg.primary;simp only[tx,ty,hd,Bool.false_eq_true,if_false,if_true,h_i,h_s,h_true,h_false,h_n,h_b,h_e,h_k]);have HB:=Hi (And.intro hR6 hV6);clear hR6 hV6 hT6
         go_upto_region 3 with(fail)
         go_region_with(go_at_call 95;refine(QbS (w0:=w6) hp6 (Ext.refl _ _).drew _ _).mono ?_;rintro e wq ⟨T7,v7,rfl,hq⟩;have cq1:=hq.cell (fun k=>k) c_hV_0;have cq2:=hq.cell (fun k=>k) c_hR_0;have cq3:=Qae (hq.heap (fun k=>k) HB.out.1) 0)
         all_goals go_wp2
         all_goals refine Qai (R:=w.heap.size) _ 2 3 (by kernel_rfl) rfl rfl rfl (Qac (o:=0) (hq.heap (fun k=>k) HB.out.1) _) ?_
         all_goals exact Qak HR.out ((hX6.trans' hq (fun _ k=>k.elim)).set (p:=⟨w.heap.size,0,none⟩) (.inr (Nat.le_refl _)) _)
end Go.Proofs.Pg
namespace Go.Proofs.Pg
open Go.RowKit
theorem expr_c{L:Lex}(hL:LexC L)(hext:∀s,L.ext s=(extM s).map (·.2)){bp base:Nat}:∀N,FnC 149 (expr L N) bp base N
 | 0=>fun w ts hp hwf hN hbs=>by
  cases ts with
  | nil=>exact absurd rfl hp.ne
  | cons t ts=>simp at hN
 | N+1=>by
  have hC:=expr_c hL hext (bp:=bp) (base:=base) N;have hE:=QdZ (L:=L) N;have h41:=Qg9 (L:=L) hE hC;have h93:=QgA (L:=L) hE hC;have hR:=record_w hL hE hC;have hI:=fun w ts r0 g0 hp hwf hg0 hN hbs hz=>entExt_w hL hext hE h41 w ts r0 g0 hp hwf hg0 hN hbs hz
  have hP:=QgU hL hE hC h93 hR hI;have hA:=access_w hL hext hE h41;have hM:=member_w hE hP hA;have hU:=unary_w hL hE hM;have hMu:=mult_w hE hU;have hAd:=add_w hE hMu;have hRe:=rel_w hE hAd (has_w hL) (like_w hL) (is_w hE hAd);have hAn:=and_w hE hRe;have hOr:=or_w hE hAn;exact expr_w hE hOr hC
end Go.Proofs.Pg
