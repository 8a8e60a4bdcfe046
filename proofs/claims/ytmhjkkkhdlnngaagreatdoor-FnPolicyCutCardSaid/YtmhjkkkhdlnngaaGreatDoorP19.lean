/- FnPolicyCut, part 19. -/
import Derived.Test.YtmhjkkkhdlnngaaGreatDoorP17
import Derived.Deep.RegionLawGrows
set_option linter.all false
set_option maxRecDepth 100000
set_option maxHeartbeats 0
namespace Go.Proofs.Pg
open Go.RowKit Go.Proofs.Tryz
attribute [local go_sem] Oper.semAt_some
theorem QgU{L:Lex}(hL:LexC L){E:Toks→Option (Ex×Toks)}{bp base N:Nat}(hE:Sh E)(hC:FnC 149 E bp base N)(hX:Qg8 (⟨#[93]⟩:ByteArray) (Qbr E [93]) bp base N)(hR:FnC 280 (recE L E) bp base N)
  (hI:∀(w:World)(ts:Toks)(r0:ByteArray)(g0:Nat),PS w bp base ts→Wf ts→ts.length<g0→ts.length≤N→base≤w.heap.size→r0.size+ts.length*1000002≤2000000000000→Calls prog 273 #[.pointer (some ⟨bp,0,none⟩),.string r0] w (QfY bp base w (Qa1 L E g0 r0 ts))) :
  FnC 257 (primary L E) bp base (N+1):=by
 intro w ts hp hwf hN hbs;have hbb:=hp.hbp;have h15:=hp.h15;have hlen:=hp.len;have HC:=Hi hC;have HX:=Hi hX;have HE:=Hi hE;have HRC:=Hi hR;have HI:=Hi hI;clear hC hE hX hR hI;obtain⟨u,q,rfl⟩:∃u q,ts=u::q:=by cases ts with | nil=>exact absurd rfl hp.ne | cons u q=>exact⟨u,q,rfl⟩
 have htz:=hp.sz;have hwa:=hwf.adv;have hla:(adv (u::q)).length≤(u::q).length:=(Qam hwf).len;have hadt:=hp.ne;go_enter func257,ntmps257
 go_upto_region 2 with(fail)
 obtain⟨w1,hw⟩:∃w1,((w.alloc (.cells #[.nilIface] 299)).alloc (.cells #[.nilIface] 299))=w1:=⟨_,rfl⟩
 rw[hw];have hF:Below w.heap.size w w1:=by rw[←hw];exact(Qab w _).alloc (by simp) _
 have hR1:w1.heap[w.heap.size]? =some (.cells #[.nilIface] 299 (0,0)):=by rw[←hw];exact Qaf (Qah (by simp) _) _
 have hV1:w1.heap[w.heap.size+1]? =some (.cells #[.nilIface] 299 (0,0)):=by rw[←hw];exact Qah (by simp) _
 have hs1:w.heap.size+2≤w1.heap.size:=by rw[←hw];simp
 clear hw;have hX1:Ext (·=bp) w w1:=.below hF;have hp1:=hp.below hF;clear hp;clear hF
 go_wp2_with fail
 refine(Qaz hp1).mono ?_;rintro e w2⟨rfl,hp2,hF⟩;have hR2:=hF.heap (by omega) hR1;have hV2:=hF.heap (by omega) hV1;have hs2:=hF.size;have hX2:=hX1.trans hF;clear hR1 hV1 hX1 hp1;clear hF
 go_wp2_with fail
 obtain⟨w3,hw⟩:∃w3,w2.alloc (.cells u.row 122)=w3:=⟨_,rfl⟩
 rw[hw];have hF:Below w2.heap.size w2 w3:=by rw[←hw];exact Qab _ _
 have hT3:w3.heap[w2.heap.size]? =some (.cells u.row 122 (0,0)):=by rw[←hw];exact Xa _ _
 have hs3:w2.heap.size+1≤w3.heap.size:=by rw[←hw];simp
 clear hw;have hR3:=Bk hF hR2;have hV3:=Bk hF hV2;have hX3:=hX2.trans (.below hF);have hp3:=hp2.below hF;clear hR2 hV2 hX2 hp2;clear hF;obtain⟨c_hT_0,c_hT_1,c_hT_2,c_hT_3,c_hT_4,c_hT_5⟩:=Cl6 hT3 rfl rfl rfl rfl rfl rfl
 go_wp2_with fail
 refine(Qg2 u _).mono ?_;rintro e w4⟨rfl,hF⟩;have hR4:=Bk hF hR3;have hV4:=Bk hF hV3;have hT4:=Bk hF hT3;have hs4:=hF.size;have hX4:=hX3.trans (.below hF);have hp4:=hp3.below hF;clear hR3 hV3 hT3 hX3 hp3 c_hT_0 c_hT_1 c_hT_2 c_hT_3 c_hT_4 c_hT_5;clear hF;cases hi:(u.ty==2)with
 | true =>
  obtain⟨c_hT_0,c_hT_1,c_hT_2,c_hT_3,c_hT_4,c_hT_5⟩:=Cl6 hT4 rfl rfl rfl rfl rfl rfl
  go_wp2_with fail
  refine(n269_c hL u _ hp4.g (by omega) htz hp4.hbs).mono ?_;rintro e w5⟨hF,hr⟩;have hR5:=Bk hF hR4;have hV5:=Bk hF hV4;have hT5:=Bk hF hT4;have hs5:=hF.size;have hX5:=hX4.trans (.below hF);have hp5:=hp4.below hF;clear hR4 hV4 hT4 hX4 hp4 c_hT_0 c_hT_1 c_hT_2 c_hT_3 c_hT_4 c_hT_5;clear hF;cases hm:L.int u.tx with
  | none =>
   rw[hm]at hr;obtain⟨n9,T9,v9,rfl⟩:=hr;have c_hV_0:=Qaa (o:=0) hV5 rfl;have lt_hV:=Qad hV5;have c_hR_0:=Qaa (o:=0) hR5 rfl;have f_hR:=Qae hR5 0;have lt_hR:=Qad hR5;have HR:=Hi (show primary L E (u::q)=none by unfold Pg.primary;simp only[tx,ty,hd,Xf,if_false,if_true,hi,hm]);have HB:=Hi hR5;clear hR5;go_wp2;refine Qai (R:=w.heap.size) _ 2 3 (by kernel_rfl) rfl rfl rfl (Qac (o:=0) HB.out _) ?_;exact(Qak HR.out (hX5.set (p:=⟨w.heap.size,0,none⟩) (.inr (show _≤w.heap.size by omega)) _))
  | some n =>
   rw[hm]at hr;obtain rfl:=hr;have HM:=Hi hm;clear hm
   go_wp2_with fail
   refine(n247_c _ _).mono ?_;rintro e w6⟨rfl,hF⟩;have hR6:=Bk hF hR5;have hV6:=Bk hF hV5;have hT6:=Bk hF hT5;have hs6:=hF.size;have hX6:=hX5.trans (.below hF);have hp6:=hp5.below hF;clear hR5 hV5 hT5 hX5 hp5;clear hF;have hz6:NodeIs w6 base (.iface 182 (.agg #[.iface 253 (.int .i64 n)])) (.val (.long n)):=.val (.long n);have c_hV_0:=Qaa (o:=0) hV6 rfl;have f_hV:=Qae hV6 0;have lt_hV:=Qad hV6;have lt_hR:=Qad hR6
   go_upto_region 51 with(fail)
   obtain⟨w7,hw⟩:∃w7,w6.setCell ⟨w.heap.size+1,0,none⟩ (.iface 182 (.agg #[.iface 253 (.int .i64 n)]))=w7:=⟨_,rfl⟩
   rw[hw];have hz7:NodeIs w7 base _ _:=hw▸hz6.store (o:=0) hV6 (by decide) (.iface 182 (.agg #[.iface 253 (.int .i64 n)]));have hR7:w7.heap[w.heap.size]? =some (.cells #[.nilIface] 299 (0,0)):=hw▸Qag (o:=0) hR6 (by omega) (.iface 182 (.agg #[.iface 253 (.int .i64 n)]));have hV7:w7.heap[w.heap.size+1]? =some (.cells #[.iface 182 (.agg #[.iface 253 (.int .i64 n)])] 299 (0,0)):=hw▸Qac (o:=0) hV6 (.iface 182 (.agg #[.iface 253 (.int .i64 n)]))
   have hT7:w7.heap[w2.heap.size]? =some (.cells u.row 122 (0,0)):=hw▸Qag (o:=0) hT6 (by omega) (.iface 182 (.agg #[.iface 253 (.int .i64 n)]));have hX7:Ext (·=bp) w w7:=hw▸hX6.set (p:=⟨w.heap.size+1,0,none⟩) (.inr (show w.heap.size≤w.heap.size+1 by omega)) (.iface 182 (.agg #[.iface 253 (.int .i64 n)]));have hs7:w6.heap.size≤w7.heap.size:=by rw[←hw];simp
   have hp7:PS w7 bp base _:=hw▸hp6.set (o:=0) (show base≤w.heap.size+1 by omega) (.iface 182 (.agg #[.iface 253 (.int .i64 n)]));clear hz6 hR6 hV6 hT6 hX6 hp6 c_hV_0 f_hV lt_hV lt_hR hw;have c_hV_0:=Qaa (o:=0) hV7 rfl;have c_hR_0:=Qaa (o:=0) hR7 rfl;have f_hR:=Qae hR7 0;have lt_hR:=Qad hR7;have HR:=Hi (show primary L E (u::q)=some (.val (.long n),adv (u::q))by unfold Pg.primary;simp only[tx,ty,hd,Xf,if_false,if_true,hi,HM.out])
   have HB:=Hi hR7;clear hR7;go_wp2;refine Qai (R:=w.heap.size) _ 2 3 (by kernel_rfl) rfl rfl rfl (Qac (o:=0) HB.out _) ?_;exact(Qal HR.out (hX7.set (p:=⟨w.heap.size,0,none⟩) (.inr (show _≤w.heap.size by omega)) _) (hp7.set (o:=0) (by omega) _) (NodeIs.store (o:=0) (hz7) HB.out (by decide) _))
 | false =>
  have h_i:=hi;clear hi;obtain⟨c_hT_0,c_hT_1,c_hT_2,c_hT_3,c_hT_4,c_hT_5⟩:=Cl6 hT4 rfl rfl rfl rfl rfl rfl
  go_wp2_with fail
  refine(QbY u _).mono ?_;rintro e w5⟨rfl,hF⟩;have hR5:=Bk hF hR4;have hV5:=Bk hF hV4;have hT5:=Bk hF hT4;have hs5:=hF.size;have hX5:=hX4.trans (.below hF);have hp5:=hp4.below hF;clear hR4 hV4 hT4 hX4 hp4 c_hT_0 c_hT_1 c_hT_2 c_hT_3 c_hT_4 c_hT_5;clear hF;cases hi:(u.ty==4)with
  | true =>
   obtain⟨c_hT_0,c_hT_1,c_hT_2,c_hT_3,c_hT_4,c_hT_5⟩:=Cl6 hT5 rfl rfl rfl rfl rfl rfl
   go_wp2_with fail
   refine(hL.str u _ hp5.g (by omega) htz hp5.hbs).mono ?_;rintro e w6⟨hF,hr⟩;have hR6:=Bk hF hR5;have hV6:=Bk hF hV5;have hT6:=Bk hF hT5;have hs6:=hF.size;have hX6:=hX5.trans (.below hF);have hp6:=hp5.below hF;clear hR5 hV5 hT5 hX5 hp5 c_hT_0 c_hT_1 c_hT_2 c_hT_3 c_hT_4 c_hT_5;clear hF;cases hm:L.str u.tx with
   | none =>
    rw[hm]at hr;obtain⟨s9,T9,v9,rfl⟩:=hr;have c_hV_0:=Qaa (o:=0) hV6 rfl;have lt_hV:=Qad hV6;have c_hR_0:=Qaa (o:=0) hR6 rfl;have f_hR:=Qae hR6 0;have lt_hR:=Qad hR6;have HR:=Hi (show primary L E (u::q)=none by unfold Pg.primary;simp only[tx,ty,hd,Xf,if_false,if_true,h_i,hi,hm]);have HB:=Hi hR6;clear hR6;go_wp2;refine Qai (R:=w.heap.size) _ 2 3 (by kernel_rfl) rfl rfl rfl (Qac (o:=0) HB.out _) ?_;exact(Qak HR.out (hX6.set (p:=⟨w.heap.size,0,none⟩) (.inr (show _≤w.heap.size by omega)) _))
   | some s =>
    rw[hm]at hr;obtain⟨rfl,hsz⟩:=hr;have HM:=Hi hm;clear hm
    go_wp2_with fail
    refine(n270_c _ _).mono ?_;rintro e w7⟨rfl,hF⟩;have hR7:=Bk hF hR6;have hV7:=Bk hF hV6;have hT7:=Bk hF hT6;have hs7:=hF.size;have hX7:=hX6.trans (.below hF);have hp7:=hp6.below hF;clear hR6 hV6 hT6 hX6 hp6;clear hF;have hz7:NodeIs w7 base (.iface 182 (.agg #[.iface 131 (.string s)])) (.val (.str s)):=.val (.str s);have c_hV_0:=Qaa (o:=0) hV7 rfl;have f_hV:=Qae hV7 0;have lt_hV:=Qad hV7;have lt_hR:=Qad hR7
    go_upto_region 51 with(fail)
    obtain⟨w8,hw⟩:∃w8,w7.setCell ⟨w.heap.size+1,0,none⟩ (.iface 182 (.agg #[.iface 131 (.string s)]))=w8:=⟨_,rfl⟩
    rw[hw];have hz8:NodeIs w8 base _ _:=hw▸hz7.store (o:=0) hV7 (by decide) (.iface 182 (.agg #[.iface 131 (.string s)]));have hR8:w8.heap[w.heap.size]? =some (.cells #[.nilIface] 299 (0,0)):=hw▸Qag (o:=0) hR7 (by omega) (.iface 182 (.agg #[.iface 131 (.string s)]));have hV8:w8.heap[w.heap.size+1]? =some (.cells #[.iface 182 (.agg #[.iface 131 (.string s)])] 299 (0,0)):=hw▸Qac (o:=0) hV7 (.iface 182 (.agg #[.iface 131 (.string s)]))
    have hT8:w8.heap[w2.heap.size]? =some (.cells u.row 122 (0,0)):=hw▸Qag (o:=0) hT7 (by omega) (.iface 182 (.agg #[.iface 131 (.string s)]));have hX8:Ext (·=bp) w w8:=hw▸hX7.set (p:=⟨w.heap.size+1,0,none⟩) (.inr (show w.heap.size≤w.heap.size+1 by omega)) (.iface 182 (.agg #[.iface 131 (.string s)]));have hs8:w7.heap.size≤w8.heap.size:=by rw[←hw];simp
    have hp8:PS w8 bp base _:=hw▸hp7.set (o:=0) (show base≤w.heap.size+1 by omega) (.iface 182 (.agg #[.iface 131 (.string s)]));clear hz7 hR7 hV7 hT7 hX7 hp7 c_hV_0 f_hV lt_hV lt_hR hw;have c_hV_0:=Qaa (o:=0) hV8 rfl;have c_hR_0:=Qaa (o:=0) hR8 rfl;have f_hR:=Qae hR8 0;have lt_hR:=Qad hR8;have HR:=Hi (show primary L E (u::q)=some (.val (.str s),adv (u::q))by unfold Pg.primary;simp only[tx,ty,hd,Xf,if_false,if_true,h_i,hi,HM.out])
    have HB:=Hi hR8;clear hR8;go_wp2;refine Qai (R:=w.heap.size) _ 2 3 (by kernel_rfl) rfl rfl rfl (Qac (o:=0) HB.out _) ?_;exact(Qal HR.out (hX8.set (p:=⟨w.heap.size,0,none⟩) (.inr (show _≤w.heap.size by omega)) _) (hp8.set (o:=0) (by omega) _) (NodeIs.store (o:=0) (hz8) HB.out (by decide) _))
  | false =>
   have h_s:=hi;clear hi;have c_hT_5:=Qaa (o:=5) hT5 rfl;cases ht:(u.tx.toList==[116,114,117,101])with
   | true =>
    go_wp2_with fail
    refine(n271_c _).mono ?_;rintro e w6⟨rfl,hF⟩;have hR6:=Bk hF hR5;have hV6:=Bk hF hV5;have hT6:=Bk hF hT5;have hs6:=hF.size;have hX6:=hX5.trans (.below hF);have hp6:=hp5.below hF;clear hR5 hV5 hT5 hX5 hp5 c_hT_5;clear hF;have hz6:NodeIs w6 base (.iface 182 (.agg #[.iface 252 (.bool true)])) (.val (.bool true)):=.val (.bool true);have c_hV_0:=Qaa (o:=0) hV6 rfl;have f_hV:=Qae hV6 0;have lt_hV:=Qad hV6
    have lt_hR:=Qad hR6
    go_upto_region 51 with(fail)
    obtain⟨w7,hw⟩:∃w7,w6.setCell ⟨w.heap.size+1,0,none⟩ (.iface 182 (.agg #[.iface 252 (.bool true)]))=w7:=⟨_,rfl⟩
    rw[hw];have hz7:NodeIs w7 base _ _:=hw▸hz6.store (o:=0) hV6 (by decide) (.iface 182 (.agg #[.iface 252 (.bool true)]));have hR7:w7.heap[w.heap.size]? =some (.cells #[.nilIface] 299 (0,0)):=hw▸Qag (o:=0) hR6 (by omega) (.iface 182 (.agg #[.iface 252 (.bool true)]));have hV7:w7.heap[w.heap.size+1]? =some (.cells #[.iface 182 (.agg #[.iface 252 (.bool true)])] 299 (0,0)):=hw▸Qac (o:=0) hV6 (.iface 182 (.agg #[.iface 252 (.bool true)]))
    have hT7:w7.heap[w2.heap.size]? =some (.cells u.row 122 (0,0)):=hw▸Qag (o:=0) hT6 (by omega) (.iface 182 (.agg #[.iface 252 (.bool true)]));have hX7:Ext (·=bp) w w7:=hw▸hX6.set (p:=⟨w.heap.size+1,0,none⟩) (.inr (show w.heap.size≤w.heap.size+1 by omega)) (.iface 182 (.agg #[.iface 252 (.bool true)]));have hs7:w6.heap.size≤w7.heap.size:=by rw[←hw];simp
    have hp7:PS w7 bp base _:=hw▸hp6.set (o:=0) (show base≤w.heap.size+1 by omega) (.iface 182 (.agg #[.iface 252 (.bool true)]));clear hz6 hR6 hV6 hT6 hX6 hp6 c_hV_0 f_hV lt_hV lt_hR hw;have c_hV_0:=Qaa (o:=0) hV7 rfl;have c_hR_0:=Qaa (o:=0) hR7 rfl;have f_hR:=Qae hR7 0;have lt_hR:=Qad hR7;have HR:=Hi (show primary L E (u::q)=some (.val (.bool true),adv (u::q))by unfold Pg.primary;simp only[tx,ty,hd,Xf,if_false,if_true,h_i,h_s,ht])
    have HB:=Hi hR7;clear hR7;go_wp2;refine Qai (R:=w.heap.size) _ 2 3 (by kernel_rfl) rfl rfl rfl (Qac (o:=0) HB.out _) ?_;exact(Qal HR.out (hX7.set (p:=⟨w.heap.size,0,none⟩) (.inr (show _≤w.heap.size by omega)) _) (hp7.set (o:=0) (by omega) _) (NodeIs.store (o:=0) (hz7) HB.out (by decide) _))
   | false =>
    have h_true:=ht;clear ht;clear c_hT_5;have c_hT_5:=Qaa (o:=5) hT5 rfl;cases ht:(u.tx.toList==[102,97,108,115,101])with
    | true =>
     go_wp2_with fail
     refine(n272_c _).mono ?_;rintro e w6⟨rfl,hF⟩;have hR6:=Bk hF hR5;have hV6:=Bk hF hV5;have hT6:=Bk hF hT5;have hs6:=hF.size;have hX6:=hX5.trans (.below hF);have hp6:=hp5.below hF;clear hR5 hV5 hT5 hX5 hp5 c_hT_5;clear hF;have hz6:NodeIs w6 base (.iface 182 (.agg #[.iface 252 (.bool false)])) (.val (.bool false)):=.val (.bool false);have c_hV_0:=Qaa (o:=0) hV6 rfl;have f_hV:=Qae hV6 0;have lt_hV:=Qad hV6
     have lt_hR:=Qad hR6
     go_upto_region 51 with(fail)
     obtain⟨w7,hw⟩:∃w7,w6.setCell ⟨w.heap.size+1,0,none⟩ (.iface 182 (.agg #[.iface 252 (.bool false)]))=w7:=⟨_,rfl⟩
     rw[hw];have hz7:NodeIs w7 base _ _:=hw▸hz6.store (o:=0) hV6 (by decide) (.iface 182 (.agg #[.iface 252 (.bool false)]));have hR7:w7.heap[w.heap.size]? =some (.cells #[.nilIface] 299 (0,0)):=hw▸Qag (o:=0) hR6 (by omega) (.iface 182 (.agg #[.iface 252 (.bool false)]));have hV7:w7.heap[w.heap.size+1]? =some (.cells #[.iface 182 (.agg #[.iface 252 (.bool false)])] 299 (0,0)):=hw▸Qac (o:=0) hV6 (.iface 182 (.agg #[.iface 252 (.bool false)]))
     have hT7:w7.heap[w2.heap.size]? =some (.cells u.row 122 (0,0)):=hw▸Qag (o:=0) hT6 (by omega) (.iface 182 (.agg #[.iface 252 (.bool false)]));have hX7:Ext (·=bp) w w7:=hw▸hX6.set (p:=⟨w.heap.size+1,0,none⟩) (.inr (show w.heap.size≤w.heap.size+1 by omega)) (.iface 182 (.agg #[.iface 252 (.bool false)]));have hs7:w6.heap.size≤w7.heap.size:=by rw[←hw];simp
     have hp7:PS w7 bp base _:=hw▸hp6.set (o:=0) (show base≤w.heap.size+1 by omega) (.iface 182 (.agg #[.iface 252 (.bool false)]));clear hz6 hR6 hV6 hT6 hX6 hp6 c_hV_0 f_hV lt_hV lt_hR hw;have c_hV_0:=Qaa (o:=0) hV7 rfl;have c_hR_0:=Qaa (o:=0) hR7 rfl;have f_hR:=Qae hR7 0;have lt_hR:=Qad hR7;have HR:=Hi (show primary L E (u::q)=some (.val (.bool false),adv (u::q))by unfold Pg.primary;simp only[tx,ty,hd,Xf,if_false,if_true,h_i,h_s,h_true,ht])
     have HB:=Hi hR7;clear hR7;go_wp2;refine Qai (R:=w.heap.size) _ 2 3 (by kernel_rfl) rfl rfl rfl (Qac (o:=0) HB.out _) ?_;exact(Qal HR.out (hX7.set (p:=⟨w.heap.size,0,none⟩) (.inr (show _≤w.heap.size by omega)) _) (hp7.set (o:=0) (by omega) _) (NodeIs.store (o:=0) (hz7) HB.out (by decide) _))
    | false =>
     have h_false:=ht;clear ht;clear c_hT_5;obtain⟨c_hT_0,c_hT_1,c_hT_2,c_hT_3,c_hT_4,c_hT_5⟩:=Cl6 hT5 rfl rfl rfl rfl rfl rfl
     go_wp2_with fail
     refine(Qbd u _).mono ?_;rintro e w6⟨rfl,hF⟩;have hR6:=Bk hF hR5;have hV6:=Bk hF hV5;have hT6:=Bk hF hT5;have hs6:=hF.size;have hX6:=hX5.trans (.below hF);have hp6:=hp5.below hF;clear hR5 hV5 hT5 hX5 hp5 c_hT_0 c_hT_1 c_hT_2 c_hT_3 c_hT_4 c_hT_5;clear hF;cases hi:(u.ty==1)with
     | true =>
      have hlt:(adv (u::q)).length<(u::q).length:=QbZ hwf (k:=1) hi (by decide);obtain⟨u2,q2,ha2⟩:∃a b,adv (u::q)=a::b:=by
       cases h:adv (u::q)with
       | nil=>rw[h]at hwa;exact absurd rfl hwa.ne
       | cons a b=>exact⟨a,b,rfl⟩
      rw[ha2]at hwa hla hlt hp6;have HA2:=Hi ha2;clear ha2
      go_wp2_with fail
      refine(Qa7 hp6).mono ?_;rintro e w7⟨rfl,hF⟩;have hR7:=Bk hF hR6;have hV7:=Bk hF hV6;have hT7:=Bk hF hT6;have hs7:=hF.size;have hX7:=hX6.trans (.below hF);have hp7:=hp6.below hF;clear hR6 hV6 hT6 hX6 hp6;clear hF
      go_upto_region 20 with(fail)
      obtain⟨w8,hw⟩:∃w8,w7.alloc (.cells u2.row 122)=w8:=⟨_,rfl⟩
      rw[hw];have hF:Below w7.heap.size w7 w8:=by rw[←hw];exact Qab _ _
      have hP8:w8.heap[w7.heap.size]? =some (.cells u2.row 122 (0,0)):=by rw[←hw];exact Xa _ _
      have hs8:w7.heap.size+1≤w8.heap.size:=by rw[←hw];simp
      clear hw;have hR8:=Bk hF hR7;have hV8:=Bk hF hV7;have hT8:=Bk hF hT7;have hX8:=hX7.trans (.below hF);have hp8:=hp7.below hF;clear hR7 hV7 hT7 hX7 hp7;clear hF;cases ht:(u2.tx.toList==[58,58])with
      | true =>
       have c_hP_5:=Qaa (o:=5) hP8 rfl;have c_hT_5:=Qaa (o:=5) hT8 rfl
       go_wp2_with fail
       refine(HI.out _ _ u.tx ((u::q).length+1) hp8 hwa (by omega) (by omega) (by omega) (by omega)).mono ?_;rintro e w9⟨hF,hr⟩;have hR9:=hF.heap (by omega) hR8;have hV9:=hF.heap (by omega) hV8;have hT9:=hF.heap (by omega) hT8;have hP9:=hF.heap (by omega) hP8;have hs9:=hF.size;have hX9:=hX8.trans hF;clear hR8 hV8 hT8 hP8 hX8 c_hP_5 c_hT_5;clear hF;have HPR:=Hi (show primary L E (u::q)=Qa1 L E ((u::q).length+1) u.tx (u2::q2)by unfold Pg.primary;simp only[true_or,or_true,or_false,false_or,tx,ty,hd,Xf,if_false,if_true,h_i,h_s,h_true,h_false,hi,HA2.out,ht])
       cases hm:Qa1 L E ((u::q).length+1) u.tx (u2::q2)with
       | none =>
        rw[hm]at hr;obtain⟨T9,v9,rfl⟩:=hr;have c_hR_0:=Qaa (o:=0) hR9 rfl;have f_hR:=Qae hR9 0;have lt_hR:=Qad hR9;have HR:=Hi (show primary L E (u::q)=none by rw[HPR.out,hm]);have HB:=Hi hR9;clear hR9;go_wp2;refine Qai (R:=w.heap.size) _ 2 3 (by kernel_rfl) rfl rfl rfl (Qac (o:=0) HB.out _) ?_;exact(Qak HR.out (hX9.set (p:=⟨w.heap.size,0,none⟩) (.inr (show _≤w.heap.size by omega)) _))
       | some p9 =>
        obtain⟨z,zs⟩:=p9;rw[hm]at hr;obtain⟨T9,v9,rfl,hp9,hz9⟩:=hr;have HPS:=Hi (show primary L E (u::q)=some (z,zs)by rw[HPR.out,hm]);clear hm;have c_hR_0:=Qaa (o:=0) hR9 rfl;have f_hR:=Qae hR9 0;have lt_hR:=Qad hR9;have HR:=Hi (HPS.out);have HB:=Hi hR9;clear hR9;go_wp2;refine Qai (R:=w.heap.size) _ 2 3 (by kernel_rfl) rfl rfl rfl (Qac (o:=0) HB.out _) ?_;exact(Qal HR.out (hX9.set (p:=⟨w.heap.size,0,none⟩) (.inr (show _≤w.heap.size by omega)) _) (hp9.set (o:=0) (by omega) _) (NodeIs.store (o:=0) (hz9) HB.out (by decide) _))
      | false =>
       have h_c:=ht;clear ht;cases ht:(u2.tx.toList==[40])with
       | true =>
        have c_hP_5:=Qaa (o:=5) hP8 rfl;have c_hT_5:=Qaa (o:=5) hT8 rfl
        go_wp2_with fail
        refine(HI.out _ _ u.tx ((u::q).length+1) hp8 hwa (by omega) (by omega) (by omega) (by omega)).mono ?_;rintro e w9⟨hF,hr⟩;have hR9:=hF.heap (by omega) hR8;have hV9:=hF.heap (by omega) hV8;have hT9:=hF.heap (by omega) hT8;have hP9:=hF.heap (by omega) hP8;have hs9:=hF.size;have hX9:=hX8.trans hF;clear hR8 hV8 hT8 hP8 hX8 c_hP_5 c_hT_5;clear hF;have HPR:=Hi (show primary L E (u::q)=Qa1 L E ((u::q).length+1) u.tx (u2::q2)by unfold Pg.primary;simp only[true_or,or_true,or_false,false_or,tx,ty,hd,Xf,if_false,if_true,h_i,h_s,h_true,h_false,h_c,hi,HA2.out,ht])
        cases hm:Qa1 L E ((u::q).length+1) u.tx (u2::q2)with
        | none =>
         rw[hm]at hr;obtain⟨T9,v9,rfl⟩:=hr;have c_hR_0:=Qaa (o:=0) hR9 rfl;have f_hR:=Qae hR9 0;have lt_hR:=Qad hR9;have HR:=Hi (show primary L E (u::q)=none by rw[HPR.out,hm]);have HB:=Hi hR9;clear hR9;go_wp2;refine Qai (R:=w.heap.size) _ 2 3 (by kernel_rfl) rfl rfl rfl (Qac (o:=0) HB.out _) ?_;exact(Qak HR.out (hX9.set (p:=⟨w.heap.size,0,none⟩) (.inr (show _≤w.heap.size by omega)) _))
        | some p9 =>
         obtain⟨z,zs⟩:=p9;rw[hm]at hr;obtain⟨T9,v9,rfl,hp9,hz9⟩:=hr;have HPS:=Hi (show primary L E (u::q)=some (z,zs)by rw[HPR.out,hm]);clear hm;have c_hR_0:=Qaa (o:=0) hR9 rfl;have f_hR:=Qae hR9 0;have lt_hR:=Qad hR9;have HR:=Hi (HPS.out);have HB:=Hi hR9;clear hR9;go_wp2;refine Qai (R:=w.heap.size) _ 2 3 (by kernel_rfl) rfl rfl rfl (Qac (o:=0) HB.out _) ?_;exact(Qal HR.out (hX9.set (p:=⟨w.heap.size,0,none⟩) (.inr (show _≤w.heap.size by omega)) _) (hp9.set (o:=0) (by omega) _) (NodeIs.store (o:=0) (hz9) HB.out (by decide) _))
       | false =>
        have h_p:=ht;clear ht;have c_hP_5:=Qaa (o:=5) hP8 rfl;have c_hT_5:=Qaa (o:=5) hT8 rfl;have HPR:=Hi (show primary L E (u::q)=(match vars u.tx.toList with
         | none=>none
         | some x=>some (x,u2::q2))by
         unfold Pg.primary;simp only[or_self,tx,ty,hd,Xf,if_false,if_true,h_i,h_s,h_true,h_false,h_c,h_p,hi,HA2.out];cases vars u.tx.toList<;>rfl)
        cases ht:(u.tx.toList==[112,114,105,110,99,105,112,97,108])with
        | true =>
         go_wp2_with fail
         refine(n274_c _).mono ?_;rintro e w9⟨rfl,hF⟩;have hR9:=Bk hF hR8;have hV9:=Bk hF hV8;have hT9:=Bk hF hT8;have hP9:=Bk hF hP8;have hs9:=hF.size;have hX9:=hX8.trans (.below hF);have hp_w9:=hp8.below hF;clear hR8 hV8 hT8 hP8 hX8 hp8 c_hP_5 c_hT_5;clear hF;have hz9:NodeIs w9 base (.iface 186 (.agg #[.string (⟨#[112,114,105,110,99,105,112,97,108]⟩:ByteArray)])) (.var (⟨#[112,114,105,110,99,105,112,97,108]⟩:ByteArray)):=.var (⟨#[112,114,105,110,99,105,112,97,108]⟩:ByteArray)
         have c_hV_0:=Qaa (o:=0) hV9 rfl;have f_hV:=Qae hV9 0;have lt_hV:=Qad hV9;have lt_hR:=Qad hR9
         go_upto_region 51 with(fail)
         obtain⟨w10,hw⟩:∃w10,w9.setCell ⟨w.heap.size+1,0,none⟩ (.iface 186 (.agg #[.string (⟨#[112,114,105,110,99,105,112,97,108]⟩:ByteArray)]))=w10:=⟨_,rfl⟩
         rw[hw];have hz10:NodeIs w10 base _ _:=hw▸hz9.store (o:=0) hV9 (by decide) (.iface 186 (.agg #[.string (⟨#[112,114,105,110,99,105,112,97,108]⟩:ByteArray)]));have hR10:w10.heap[w.heap.size]? =some (.cells #[.nilIface] 299 (0,0)):=hw▸Qag (o:=0) hR9 (by omega) (.iface 186 (.agg #[.string (⟨#[112,114,105,110,99,105,112,97,108]⟩:ByteArray)]));have hV10:w10.heap[w.heap.size+1]? =some (.cells #[.iface 186 (.agg #[.string (⟨#[112,114,105,110,99,105,112,97,108]⟩:ByteArray)])] 299 (0,0)):=hw▸Qac (o:=0) hV9 (.iface 186 (.agg #[.string (⟨#[112,114,105,110,99,105,112,97,108]⟩:ByteArray)]))
         have hT10:w10.heap[w2.heap.size]? =some (.cells u.row 122 (0,0)):=hw▸Qag (o:=0) hT9 (by omega) (.iface 186 (.agg #[.string (⟨#[112,114,105,110,99,105,112,97,108]⟩:ByteArray)]));have hP10:w10.heap[w7.heap.size]? =some (.cells u2.row 122 (0,0)):=hw▸Qag (o:=0) hP9 (by omega) (.iface 186 (.agg #[.string (⟨#[112,114,105,110,99,105,112,97,108]⟩:ByteArray)]));have hX10:Ext (·=bp) w w10:=hw▸hX9.set (p:=⟨w.heap.size+1,0,none⟩) (.inr (show w.heap.size≤w.heap.size+1 by omega)) (.iface 186 (.agg #[.string (⟨#[112,114,105,110,99,105,112,97,108]⟩:ByteArray)]))
         have hs10:w9.heap.size≤w10.heap.size:=by rw[←hw];simp
         have hp10:PS w10 bp base _:=hw▸hp_w9.set (o:=0) (show base≤w.heap.size+1 by omega) (.iface 186 (.agg #[.string (⟨#[112,114,105,110,99,105,112,97,108]⟩:ByteArray)]));clear hz9 hR9 hV9 hT9 hP9 hX9 hp_w9 c_hV_0 f_hV lt_hV lt_hR hw;have c_hV_0:=Qaa (o:=0) hV10 rfl;have c_hR_0:=Qaa (o:=0) hR10 rfl;have f_hR:=Qae hR10 0;have lt_hR:=Qad hR10;have HR:=Hi (show primary L E (u::q)=some (.var (⟨#[112,114,105,110,99,105,112,97,108]⟩:ByteArray),u2::q2)by rw[HPR.out];simp only[vars,ht,Xf,if_false,if_true])
         have HB:=Hi hR10;clear hR10;go_wp2;refine Qai (R:=w.heap.size) _ 2 3 (by kernel_rfl) rfl rfl rfl (Qac (o:=0) HB.out _) ?_;exact(Qal HR.out (hX10.set (p:=⟨w.heap.size,0,none⟩) (.inr (show _≤w.heap.size by omega)) _) (hp10.set (o:=0) (by omega) _) (NodeIs.store (o:=0) (hz10) HB.out (by decide) _))
        | false =>
         have h_vprincipal:=ht;clear ht;cases ht:(u.tx.toList==[97,99,116,105,111,110])with
         | true =>
          go_wp2_with fail
          refine(n275_c _).mono ?_;rintro e w9⟨rfl,hF⟩;have hR9:=Bk hF hR8;have hV9:=Bk hF hV8;have hT9:=Bk hF hT8;have hP9:=Bk hF hP8;have hs9:=hF.size;have hX9:=hX8.trans (.below hF);have hp_w9:=hp8.below hF;clear hR8 hV8 hT8 hP8 hX8 hp8 c_hP_5 c_hT_5;clear hF;have hz9:NodeIs w9 base (.iface 186 (.agg #[.string (⟨#[97,99,116,105,111,110]⟩:ByteArray)])) (.var (⟨#[97,99,116,105,111,110]⟩:ByteArray)):=.var (⟨#[97,99,116,105,111,110]⟩:ByteArray)
          have c_hV_0:=Qaa (o:=0) hV9 rfl;have f_hV:=Qae hV9 0;have lt_hV:=Qad hV9;have lt_hR:=Qad hR9
          go_upto_region 51 with(fail)
          obtain⟨w10,hw⟩:∃w10,w9.setCell ⟨w.heap.size+1,0,none⟩ (.iface 186 (.agg #[.string (⟨#[97,99,116,105,111,110]⟩:ByteArray)]))=w10:=⟨_,rfl⟩
          rw[hw];have hz10:NodeIs w10 base _ _:=hw▸hz9.store (o:=0) hV9 (by decide) (.iface 186 (.agg #[.string (⟨#[97,99,116,105,111,110]⟩:ByteArray)]));have hR10:w10.heap[w.heap.size]? =some (.cells #[.nilIface] 299 (0,0)):=hw▸Qag (o:=0) hR9 (by omega) (.iface 186 (.agg #[.string (⟨#[97,99,116,105,111,110]⟩:ByteArray)]));have hV10:w10.heap[w.heap.size+1]? =some (.cells #[.iface 186 (.agg #[.string (⟨#[97,99,116,105,111,110]⟩:ByteArray)])] 299 (0,0)):=hw▸Qac (o:=0) hV9 (.iface 186 (.agg #[.string (⟨#[97,99,116,105,111,110]⟩:ByteArray)]))
          have hT10:w10.heap[w2.heap.size]? =some (.cells u.row 122 (0,0)):=hw▸Qag (o:=0) hT9 (by omega) (.iface 186 (.agg #[.string (⟨#[97,99,116,105,111,110]⟩:ByteArray)]));have hP10:w10.heap[w7.heap.size]? =some (.cells u2.row 122 (0,0)):=hw▸Qag (o:=0) hP9 (by omega) (.iface 186 (.agg #[.string (⟨#[97,99,116,105,111,110]⟩:ByteArray)]));have hX10:Ext (·=bp) w w10:=hw▸hX9.set (p:=⟨w.heap.size+1,0,none⟩) (.inr (show w.heap.size≤w.heap.size+1 by omega)) (.iface 186 (.agg #[.string (⟨#[97,99,116,105,111,110]⟩:ByteArray)]))
          have hs10:w9.heap.size≤w10.heap.size:=by rw[←hw];simp
          have hp10:PS w10 bp base _:=hw▸hp_w9.set (o:=0) (show base≤w.heap.size+1 by omega) (.iface 186 (.agg #[.string (⟨#[97,99,116,105,111,110]⟩:ByteArray)]));clear hz9 hR9 hV9 hT9 hP9 hX9 hp_w9 c_hV_0 f_hV lt_hV lt_hR hw;have c_hV_0:=Qaa (o:=0) hV10 rfl;have c_hR_0:=Qaa (o:=0) hR10 rfl;have f_hR:=Qae hR10 0;have lt_hR:=Qad hR10;have HR:=Hi (show primary L E (u::q)=some (.var (⟨#[97,99,116,105,111,110]⟩:ByteArray),u2::q2)by rw[HPR.out];simp only[vars,h_vprincipal,ht,Xf,if_false,if_true])
          have HB:=Hi hR10;clear hR10;go_wp2;refine Qai (R:=w.heap.size) _ 2 3 (by kernel_rfl) rfl rfl rfl (Qac (o:=0) HB.out _) ?_;exact(Qal HR.out (hX10.set (p:=⟨w.heap.size,0,none⟩) (.inr (show _≤w.heap.size by omega)) _) (hp10.set (o:=0) (by omega) _) (NodeIs.store (o:=0) (hz10) HB.out (by decide) _))
         | false =>
          have h_vaction:=ht;clear ht;cases ht:(u.tx.toList==[114,101,115,111,117,114,99,101])with
          | true =>
           go_wp2_with fail
           refine(n276_c _).mono ?_;rintro e w9⟨rfl,hF⟩;have hR9:=Bk hF hR8;have hV9:=Bk hF hV8;have hT9:=Bk hF hT8;have hP9:=Bk hF hP8;have hs9:=hF.size;have hX9:=hX8.trans (.below hF);have hp_w9:=hp8.below hF;clear hR8 hV8 hT8 hP8 hX8 hp8 c_hP_5 c_hT_5;clear hF;have hz9:NodeIs w9 base (.iface 186 (.agg #[.string (⟨#[114,101,115,111,117,114,99,101]⟩:ByteArray)])) (.var (⟨#[114,101,115,111,117,114,99,101]⟩:ByteArray)):=.var (⟨#[114,101,115,111,117,114,99,101]⟩:ByteArray)
           have c_hV_0:=Qaa (o:=0) hV9 rfl;have f_hV:=Qae hV9 0;have lt_hV:=Qad hV9;have lt_hR:=Qad hR9
           go_upto_region 51 with(fail)
           obtain⟨w10,hw⟩:∃w10,w9.setCell ⟨w.heap.size+1,0,none⟩ (.iface 186 (.agg #[.string (⟨#[114,101,115,111,117,114,99,101]⟩:ByteArray)]))=w10:=⟨_,rfl⟩
           rw[hw];have hz10:NodeIs w10 base _ _:=hw▸hz9.store (o:=0) hV9 (by decide) (.iface 186 (.agg #[.string (⟨#[114,101,115,111,117,114,99,101]⟩:ByteArray)]));have hR10:w10.heap[w.heap.size]? =some (.cells #[.nilIface] 299 (0,0)):=hw▸Qag (o:=0) hR9 (by omega) (.iface 186 (.agg #[.string (⟨#[114,101,115,111,117,114,99,101]⟩:ByteArray)]));have hV10:w10.heap[w.heap.size+1]? =some (.cells #[.iface 186 (.agg #[.string (⟨#[114,101,115,111,117,114,99,101]⟩:ByteArray)])] 299 (0,0)):=hw▸Qac (o:=0) hV9 (.iface 186 (.agg #[.string (⟨#[114,101,115,111,117,114,99,101]⟩:ByteArray)]))
           have hT10:w10.heap[w2.heap.size]? =some (.cells u.row 122 (0,0)):=hw▸Qag (o:=0) hT9 (by omega) (.iface 186 (.agg #[.string (⟨#[114,101,115,111,117,114,99,101]⟩:ByteArray)]));have hP10:w10.heap[w7.heap.size]? =some (.cells u2.row 122 (0,0)):=hw▸Qag (o:=0) hP9 (by omega) (.iface 186 (.agg #[.string (⟨#[114,101,115,111,117,114,99,101]⟩:ByteArray)]));have hX10:Ext (·=bp) w w10:=hw▸hX9.set (p:=⟨w.heap.size+1,0,none⟩) (.inr (show w.heap.size≤w.heap.size+1 by omega)) (.iface 186 (.agg #[.string (⟨#[114,101,115,111,117,114,99,101]⟩:ByteArray)]))
           have hs10:w9.heap.size≤w10.heap.size:=by rw[←hw];simp
           have hp10:PS w10 bp base _:=hw▸hp_w9.set (o:=0) (show base≤w.heap.size+1 by omega) (.iface 186 (.agg #[.string (⟨#[114,101,115,111,117,114,99,101]⟩:ByteArray)]));clear hz9 hR9 hV9 hT9 hP9 hX9 hp_w9 c_hV_0 f_hV lt_hV lt_hR hw;have c_hV_0:=Qaa (o:=0) hV10 rfl;have c_hR_0:=Qaa (o:=0) hR10 rfl;have f_hR:=Qae hR10 0;have lt_hR:=Qad hR10;have HR:=Hi (show primary L E (u::q)=some (.var (⟨#[114,101,115,111,117,114,99,101]⟩:ByteArray),u2::q2)by rw[HPR.out];simp only[vars,h_vprincipal,h_vaction,ht,Xf,if_false,if_true])
           have HB:=Hi hR10;clear hR10;go_wp2;refine Qai (R:=w.heap.size) _ 2 3 (by kernel_rfl) rfl rfl rfl (Qac (o:=0) HB.out _) ?_;exact(Qal HR.out (hX10.set (p:=⟨w.heap.size,0,none⟩) (.inr (show _≤w.heap.size by omega)) _) (hp10.set (o:=0) (by omega) _) (NodeIs.store (o:=0) (hz10) HB.out (by decide) _))
          | false =>
           have h_vresource:=ht;clear ht;cases ht:(u.tx.toList==[99,111,110,116,101,120,116])with
           | true =>
            go_wp2_with fail
            refine(n277_c _).mono ?_;rintro e w9⟨rfl,hF⟩;have hR9:=Bk hF hR8;have hV9:=Bk hF hV8;have hT9:=Bk hF hT8;have hP9:=Bk hF hP8;have hs9:=hF.size;have hX9:=hX8.trans (.below hF);have hp_w9:=hp8.below hF;clear hR8 hV8 hT8 hP8 hX8 hp8 c_hP_5 c_hT_5;clear hF;have hz9:NodeIs w9 base (.iface 186 (.agg #[.string (⟨#[99,111,110,116,101,120,116]⟩:ByteArray)])) (.var (⟨#[99,111,110,116,101,120,116]⟩:ByteArray)):=.var (⟨#[99,111,110,116,101,120,116]⟩:ByteArray)
            have c_hV_0:=Qaa (o:=0) hV9 rfl;have f_hV:=Qae hV9 0;have lt_hV:=Qad hV9;have lt_hR:=Qad hR9
            go_upto_region 51 with(fail)
            obtain⟨w10,hw⟩:∃w10,w9.setCell ⟨w.heap.size+1,0,none⟩ (.iface 186 (.agg #[.string (⟨#[99,111,110,116,101,120,116]⟩:ByteArray)]))=w10:=⟨_,rfl⟩
            rw[hw];have hz10:NodeIs w10 base _ _:=hw▸hz9.store (o:=0) hV9 (by decide) (.iface 186 (.agg #[.string (⟨#[99,111,110,116,101,120,116]⟩:ByteArray)]));have hR10:w10.heap[w.heap.size]? =some (.cells #[.nilIface] 299 (0,0)):=hw▸Qag (o:=0) hR9 (by omega) (.iface 186 (.agg #[.string (⟨#[99,111,110,116,101,120,116]⟩:ByteArray)]));have hV10:w10.heap[w.heap.size+1]? =some (.cells #[.iface 186 (.agg #[.string (⟨#[99,111,110,116,101,120,116]⟩:ByteArray)])] 299 (0,0)):=hw▸Qac (o:=0) hV9 (.iface 186 (.agg #[.string (⟨#[99,111,110,116,101,120,116]⟩:ByteArray)]))
            have hT10:w10.heap[w2.heap.size]? =some (.cells u.row 122 (0,0)):=hw▸Qag (o:=0) hT9 (by omega) (.iface 186 (.agg #[.string (⟨#[99,111,110,116,101,120,116]⟩:ByteArray)]));have hP10:w10.heap[w7.heap.size]? =some (.cells u2.row 122 (0,0)):=hw▸Qag (o:=0) hP9 (by omega) (.iface 186 (.agg #[.string (⟨#[99,111,110,116,101,120,116]⟩:ByteArray)]));have hX10:Ext (·=bp) w w10:=hw▸hX9.set (p:=⟨w.heap.size+1,0,none⟩) (.inr (show w.heap.size≤w.heap.size+1 by omega)) (.iface 186 (.agg #[.string (⟨#[99,111,110,116,101,120,116]⟩:ByteArray)]))
            have hs10:w9.heap.size≤w10.heap.size:=by rw[←hw];simp
            have hp10:PS w10 bp base _:=hw▸hp_w9.set (o:=0) (show base≤w.heap.size+1 by omega) (.iface 186 (.agg #[.string (⟨#[99,111,110,116,101,120,116]⟩:ByteArray)]));clear hz9 hR9 hV9 hT9 hP9 hX9 hp_w9 c_hV_0 f_hV lt_hV lt_hR hw;have c_hV_0:=Qaa (o:=0) hV10 rfl;have c_hR_0:=Qaa (o:=0) hR10 rfl;have f_hR:=Qae hR10 0;have lt_hR:=Qad hR10;have HR:=Hi (show primary L E (u::q)=some (.var (⟨#[99,111,110,116,101,120,116]⟩:ByteArray),u2::q2)by rw[HPR.out];simp only[vars,h_vprincipal,h_vaction,h_vresource,ht,Xf,if_false,if_true])
            have HB:=Hi hR10;clear hR10;go_wp2;refine Qai (R:=w.heap.size) _ 2 3 (by kernel_rfl) rfl rfl rfl (Qac (o:=0) HB.out _) ?_;exact(Qal HR.out (hX10.set (p:=⟨w.heap.size,0,none⟩) (.inr (show _≤w.heap.size by omega)) _) (hp10.set (o:=0) (by omega) _) (NodeIs.store (o:=0) (hz10) HB.out (by decide) _))
           | false =>
            have h_vcontext:=ht;clear ht;have c_hR_0:=Qaa (o:=0) hR8 rfl;have c_hV_0:=Qaa (o:=0) hV8 rfl;have lt_hR:=Qad hR8;have lt_hV:=Qad hV8;have HR:=Hi (show primary L E (u::q)=none by rw[HPR.out];simp only[vars,h_vprincipal,h_vaction,h_vresource,h_vcontext,Xf,if_false]);have HB:=Hi (Xc hR8 hV8);clear hR8 hV8 hT8 hP8
            go_upto_region 23 with(fail)
            go_region_with(go_at_call 95;refine(QbS (w0:=w8) hp8 (Ext.refl _ _).drew _ _).mono ?_;rintro e wq ⟨T7,v7,rfl,hq⟩;have cq1:=hq.cell (fun k=>k) c_hV_0;have cq2:=hq.cell (fun k=>k) c_hR_0;have cq3:=Qae (hq.heap (fun k=>k) HB.out.1) 0)
            all_goals go_wp2
            all_goals refine Qai (R:=w.heap.size) _ 2 3 (by kernel_rfl) rfl rfl rfl (Qac (o:=0) (hq.heap (fun k=>k) HB.out.1) _) ?_
            all_goals exact Qak HR.out ((hX8.trans' hq (fun _ k=>k.elim)).set (p:=⟨w.heap.size,0,none⟩) (.inr (Xb _)) _)
     | false =>
      have h_n:=hi;clear hi;have c_hT_5:=Qaa (o:=5) hT6 rfl;cases ht:(u.tx.toList==[40])with
      | true =>
       have hlt:(adv (u::q)).length<(u::q).length:=Qax hwf (s:=[40]) ht (by decide)
       go_wp2_with fail
       refine(HC.out _ _ hp6 hwa (by omega) (by omega)).mono ?_;rintro e w7⟨hF,hr⟩;have hR7:=hF.heap (by omega) hR6;have hV7:=hF.heap (by omega) hV6;have hT7:=hF.heap (by omega) hT6;have hs7:=hF.size;have hX7:=hX6.trans hF;clear hR6 hV6 hT6 hX6 c_hT_5;clear hF;cases hm:E (adv (u::q))with
       | none =>
        rw[hm]at hr;obtain⟨T9,v9,rfl⟩:=hr;have c_hV_0:=Qaa (o:=0) hV7 rfl;have lt_hV:=Qad hV7;have c_hR_0:=Qaa (o:=0) hR7 rfl;have f_hR:∀o,(w7.alloc o).frozen? ⟨w.heap.size,0,none⟩=false:=fun o=>Qae (Qaf hR7 o) 0
        have lt_hR:=Qad hR7;have HR:=Hi (show primary L E (u::q)=none by unfold Pg.primary;simp only[tx,ty,hd,Xf,if_false,if_true,h_i,h_s,h_true,h_false,h_n,ht,hm]);have HB:=Hi hR7;clear hR7;go_wp2;refine Qai (R:=w.heap.size) _ 2 3 (by kernel_rfl) rfl rfl rfl (Qaf (Qac (o:=0) HB.out _) _) ?_;exact(Qak HR.out ((hX7.set (p:=⟨w.heap.size,0,none⟩) (.inr (show _≤w.heap.size by omega)) _).alloc _))
       | some p9 =>
        obtain⟨z,zs⟩:=p9;rw[hm]at hr;obtain⟨T9,v9,rfl,hp9,hz7⟩:=hr;have hwz:=(HE.out _ _ _ hwa hm).1.wf hwa;have HM:=Hi hm;clear hm;obtain⟨u2,q2,rfl⟩:∃u q,zs=u::q:=by cases zs with | nil=>exact absurd rfl hp9.ne | cons u q=>exact⟨u,q,rfl⟩
        go_upto_region 34 with(fail)
        obtain⟨w8,hw⟩:∃w8,w7.alloc (.cells #[.iface T9 v9] 299)=w8:=⟨_,rfl⟩
        rw[hw];have hF:Below w7.heap.size w7 w8:=by rw[←hw];exact Qab _ _
        have hB8:w8.heap[w7.heap.size]? =some (.cells #[.iface T9 v9] 299 (0,0)):=by rw[←hw];exact Xa _ _
        have hs8:w7.heap.size+1≤w8.heap.size:=by rw[←hw];simp
        clear hw;have hz8:=hz7.later hF;have hR8:=Bk hF hR7;have hV8:=Bk hF hV7;have hT8:=Bk hF hT7;have hX8:=hX7.trans (.below hF);have hp8:=hp9.below hF;clear hz7 hR7 hV7 hT7 hX7 hp9;clear hF;cases hj:(u2.tx.toList==[41])with
        | false =>
         go_wp2_with fail
         refine(Qa9 hp8 hj).mono ?_;rintro e w9⟨T8,v8,rfl,hp_w9,hF⟩;have hz9:=hz8.keep hF (fun d hd=>by omega);have hR9:=hF.heap (by omega) hR8;have hV9:=hF.heap (by omega) hV8;have hT9:=hF.heap (by omega) hT8;have hB9:=hF.heap (by omega) hB8;have hs9:=hF.size;have hX9:=hX8.trans hF;clear hz8 hR8 hV8 hT8 hB8 hX8 hp8;clear hF;have c_hV_0:=Qaa (o:=0) hV9 rfl;have lt_hV:=Qad hV9;have c_hR_0:=Qaa (o:=0) hR9 rfl
         have f_hR:=Qae hR9 0;have lt_hR:=Qad hR9;have HR:=Hi (show primary L E (u::q)=none by unfold Pg.primary;simp only[tx,ty,hd,Xf,if_false,if_true,h_i,h_s,h_true,h_false,h_n,ht,HM.out,exact,hj]);have HB:=Hi hR9;clear hR9;go_wp2;refine Qai (R:=w.heap.size) _ 2 3 (by kernel_rfl) rfl rfl rfl (Qac (o:=0) HB.out _) ?_;exact(Qak HR.out (hX9.set (p:=⟨w.heap.size,0,none⟩) (.inr (show _≤w.heap.size by omega)) _))
        | true =>
         go_wp2_with fail
         refine(Qa0 hp8 hj).mono ?_;rintro e w9⟨rfl,hp_w9,hF⟩;have hz9:=hz8.keep hF (fun d hd=>by omega);have hR9:=hF.heap (by omega) hR8;have hV9:=hF.heap (by omega) hV8;have hT9:=hF.heap (by omega) hT8;have hB9:=hF.heap (by omega) hB8;have hs9:=hF.size;have hX9:=hX8.trans hF;clear hz8 hR8 hV8 hT8 hB8 hX8 hp8;clear hF;have c_hB_0:=Qaa (o:=0) hB9 rfl;have c_hV_0:=Qaa (o:=0) hV9 rfl;have f_hV:=Qae hV9 0
         have lt_hV:=Qad hV9;have lt_hR:=Qad hR9
         go_upto_region 51 with(fail)
         obtain⟨w10,hw⟩:∃w10,w9.setCell ⟨w.heap.size+1,0,none⟩ (.iface T9 (v9))=w10:=⟨_,rfl⟩
         rw[hw];have hz10:NodeIs w10 base _ _:=hw▸hz9.store (o:=0) hV9 (by decide) (.iface T9 (v9));have hR10:w10.heap[w.heap.size]? =some (.cells #[.nilIface] 299 (0,0)):=hw▸Qag (o:=0) hR9 (by omega) (.iface T9 (v9));have hV10:w10.heap[w.heap.size+1]? =some (.cells #[.iface T9 (v9)] 299 (0,0)):=hw▸Qac (o:=0) hV9 (.iface T9 (v9));have hT10:w10.heap[w2.heap.size]? =some (.cells u.row 122 (0,0)):=hw▸Qag (o:=0) hT9 (by omega) (.iface T9 (v9))
         have hB10:w10.heap[w7.heap.size]? =some (.cells #[.iface T9 v9] 299 (0,0)):=hw▸Qag (o:=0) hB9 (by omega) (.iface T9 (v9));have hX10:Ext (·=bp) w w10:=hw▸hX9.set (p:=⟨w.heap.size+1,0,none⟩) (.inr (show w.heap.size≤w.heap.size+1 by omega)) (.iface T9 (v9));have hs10:w9.heap.size≤w10.heap.size:=by rw[←hw];simp
         have hp10:PS w10 bp base _:=hw▸hp_w9.set (o:=0) (show base≤w.heap.size+1 by omega) (.iface T9 (v9));clear hz9 hR9 hV9 hT9 hB9 hX9 hp_w9 c_hB_0 c_hV_0 f_hV lt_hV lt_hR hw;have c_hV_0:=Qaa (o:=0) hV10 rfl;have c_hR_0:=Qaa (o:=0) hR10 rfl;have f_hR:=Qae hR10 0;have lt_hR:=Qad hR10;have HR:=Hi (show primary L E (u::q)=some (z,adv (u2::q2))by unfold Pg.primary;simp only[tx,ty,hd,Xf,if_false,if_true,h_i,h_s,h_true,h_false,h_n,ht,HM.out,exact,hj])
         have HB:=Hi hR10;clear hR10;go_wp2;refine Qai (R:=w.heap.size) _ 2 3 (by kernel_rfl) rfl rfl rfl (Qac (o:=0) HB.out _) ?_;exact(Qal HR.out (hX10.set (p:=⟨w.heap.size,0,none⟩) (.inr (show _≤w.heap.size by omega)) _) (hp10.set (o:=0) (by omega) _) (NodeIs.store (o:=0) (hz10) HB.out (by decide) _))
      | false =>
       have h_b:=ht;clear ht;cases ht:(u.tx.toList==[91])with
       | true =>
        have hlt:(adv (u::q)).length<(u::q).length:=Qax hwf (s:=[91]) ht (by decide)
        go_wp2_with fail
        refine(HX.out _ _ hp6 hwa (by omega) (by omega)).mono ?_;rintro e w7⟨hF,hr⟩;have hR7:=hF.heap (by omega) hR6;have hV7:=hF.heap (by omega) hV6;have hT7:=hF.heap (by omega) hT6;have hs7:=hF.size;have hX7:=hX6.trans hF;clear hR6 hV6 hT6 hX6 c_hT_5;clear hF;cases hm:Qbr E [93] (adv (u::q))with
        | none =>
         rw[hm]at hr;obtain⟨s9,T9,v9,rfl⟩:=hr;have c_hV_0:=Qaa (o:=0) hV7 rfl;have lt_hV:=Qad hV7;have c_hR_0:=Qaa (o:=0) hR7 rfl;have f_hR:=Qae hR7 0;have lt_hR:=Qad hR7;have HR:=Hi (show primary L E (u::q)=none by unfold Pg.primary;simp only[tx,ty,hd,Xf,if_false,if_true,h_i,h_s,h_true,h_false,h_n,h_b,ht,hm]);have HB:=Hi hR7;clear hR7;go_wp2;refine Qai (R:=w.heap.size) _ 2 3 (by kernel_rfl) rfl rfl rfl (Qac (o:=0) HB.out _) ?_
         exact(Qak HR.out (hX7.set (p:=⟨w.heap.size,0,none⟩) (.inr (show _≤w.heap.size by omega)) _))
        | some p9 =>
         obtain⟨l,zs⟩:=p9;rw[hm]at hr;obtain⟨s9,vals,rfl,hp9,hO7,hm7,hll⟩:=hr;have HM:=Hi hm;clear hm;obtain⟨u2,q2,rfl⟩:∃u q,zs=u::q:=by cases zs with | nil=>exact absurd rfl hp9.ne | cons u q=>exact⟨u,q,rfl⟩
         go_wp2_with fail
         refine(Qaz hp9).mono ?_;rintro e w8⟨rfl,hp8,hF⟩;have hm8:=hm7.keep hF (fun d hd=>by omega);have hR8:=hF.heap (by omega) hR7;have hV8:=hF.heap (by omega) hV7;have hT8:=hF.heap (by omega) hT7;have hO8:=Qaj hO7 hF (fun d hd=>by omega);have hs8:=hF.size;have hX8:=hX7.trans hF;clear hm7 hR7 hV7 hT7 hO7 hX7 hp9;clear hF
         go_wp2_with fail
         refine(set_c (by omega) hO8 hm8 hll).mono ?_;rintro e w9⟨hF,T9,v9,rfl,hz9⟩;clear hm8 hO8;have hR9:=Bk hF hR8;have hV9:=Bk hF hV8;have hT9:=Bk hF hT8;have hs9:=hF.size;have hX9:=hX8.trans (.below hF);have hp_w9:=hp8.below hF;clear hR8 hV8 hT8 hX8 hp8;clear hF;have c_hV_0:=Qaa (o:=0) hV9 rfl;have f_hV:=Qae hV9 0;have lt_hV:=Qad hV9;have lt_hR:=Qad hR9
         go_upto_region 51 with(fail)
         obtain⟨w10,hw⟩:∃w10,w9.setCell ⟨w.heap.size+1,0,none⟩ (.iface T9 (v9))=w10:=⟨_,rfl⟩
         rw[hw];have hz10:NodeIs w10 base _ _:=hw▸hz9.store (o:=0) hV9 (by decide) (.iface T9 (v9));have hR10:w10.heap[w.heap.size]? =some (.cells #[.nilIface] 299 (0,0)):=hw▸Qag (o:=0) hR9 (by omega) (.iface T9 (v9));have hV10:w10.heap[w.heap.size+1]? =some (.cells #[.iface T9 (v9)] 299 (0,0)):=hw▸Qac (o:=0) hV9 (.iface T9 (v9));have hT10:w10.heap[w2.heap.size]? =some (.cells u.row 122 (0,0)):=hw▸Qag (o:=0) hT9 (by omega) (.iface T9 (v9))
         have hX10:Ext (·=bp) w w10:=hw▸hX9.set (p:=⟨w.heap.size+1,0,none⟩) (.inr (show w.heap.size≤w.heap.size+1 by omega)) (.iface T9 (v9));have hs10:w9.heap.size≤w10.heap.size:=by rw[←hw];simp
         have hp10:PS w10 bp base _:=hw▸hp_w9.set (o:=0) (show base≤w.heap.size+1 by omega) (.iface T9 (v9));clear hz9 hR9 hV9 hT9 hX9 hp_w9 c_hV_0 f_hV lt_hV lt_hR hw;have c_hV_0:=Qaa (o:=0) hV10 rfl;have c_hR_0:=Qaa (o:=0) hR10 rfl;have f_hR:=Qae hR10 0;have lt_hR:=Qad hR10;have HR:=Hi (show primary L E (u::q)=some (.set l,adv (u2::q2))by unfold Pg.primary;simp only[tx,ty,hd,Xf,if_false,if_true,h_i,h_s,h_true,h_false,h_n,h_b,ht,HM.out])
         have HB:=Hi hR10;clear hR10;go_wp2;refine Qai (R:=w.heap.size) _ 2 3 (by kernel_rfl) rfl rfl rfl (Qac (o:=0) HB.out _) ?_;exact(Qal HR.out (hX10.set (p:=⟨w.heap.size,0,none⟩) (.inr (show _≤w.heap.size by omega)) _) (hp10.set (o:=0) (by omega) _) (NodeIs.store (o:=0) (hz10) HB.out (by decide) _))
       | false =>
        have h_e:=ht;clear ht;cases ht:(u.tx.toList==[123])with
        | true =>
         have hlt:(adv (u::q)).length<(u::q).length:=Qax hwf (s:=[123]) ht (by decide)
         go_wp2_with fail
         refine(HRC.out _ _ hp6 hwa (by omega) (by omega)).mono ?_;rintro e w7⟨hF,hr⟩;have hR7:=hF.heap (by omega) hR6;have hV7:=hF.heap (by omega) hV6;have hT7:=hF.heap (by omega) hT6;have hs7:=hF.size;have hX7:=hX6.trans hF;clear hR6 hV6 hT6 hX6 c_hT_5;clear hF;have HPR:=Hi (show primary L E (u::q)=recE L E (adv (u::q))by unfold Pg.primary;simp only[tx,ty,hd,Xf,if_false,if_true,h_i,h_s,h_true,h_false,h_n,h_b,h_e,ht];unfold recE;cases recd L E (adv (u::q))<;>rfl)
         cases hm:recE L E (adv (u::q))with
         | none =>
          rw[hm]at hr;obtain⟨T9,v9,rfl⟩:=hr;have c_hV_0:=Qaa (o:=0) hV7 rfl;have lt_hV:=Qad hV7;have c_hR_0:=Qaa (o:=0) hR7 rfl;have f_hR:∀o,(w7.alloc o).frozen? ⟨w.heap.size,0,none⟩=false:=fun o=>Qae (Qaf hR7 o) 0
          have lt_hR:=Qad hR7;have HR:=Hi (show primary L E (u::q)=none by rw[HPR.out,hm]);have HB:=Hi hR7;clear hR7;go_wp2;refine Qai (R:=w.heap.size) _ 2 3 (by kernel_rfl) rfl rfl rfl (Qaf (Qac (o:=0) HB.out _) _) ?_;exact(Qak HR.out ((hX7.set (p:=⟨w.heap.size,0,none⟩) (.inr (show _≤w.heap.size by omega)) _).alloc _))
         | some p9 =>
          obtain⟨z,zs⟩:=p9;rw[hm]at hr;obtain⟨T9,v9,rfl,hp9,hz7⟩:=hr;have HPS:=Hi (show primary L E (u::q)=some (z,zs)by rw[HPR.out,hm]);clear hm
          go_upto_region 48 with(fail)
          obtain⟨w8,hw⟩:∃w8,w7.alloc (.cells #[.iface T9 v9] 299)=w8:=⟨_,rfl⟩
          rw[hw];have hF:Below w7.heap.size w7 w8:=by rw[←hw];exact Qab _ _
          have hB8:w8.heap[w7.heap.size]? =some (.cells #[.iface T9 v9] 299 (0,0)):=by rw[←hw];exact Xa _ _
          have hs8:w7.heap.size+1≤w8.heap.size:=by rw[←hw];simp
          clear hw;have hz8:=hz7.later hF;have hR8:=Bk hF hR7;have hV8:=Bk hF hV7;have hT8:=Bk hF hT7;have hX8:=hX7.trans (.below hF);have hp8:=hp9.below hF;clear hz7 hR7 hV7 hT7 hX7 hp9;clear hF;have c_hB_0:=Qaa (o:=0) hB8 rfl;have c_hV_0:=Qaa (o:=0) hV8 rfl;have f_hV:=Qae hV8 0;have lt_hV:=Qad hV8;have lt_hR:=Qad hR8
          go_upto_region 51 with(fail)
          obtain⟨w9,hw⟩:∃w9,w8.setCell ⟨w.heap.size+1,0,none⟩ (.iface T9 (v9))=w9:=⟨_,rfl⟩
          rw[hw];have hz9:NodeIs w9 base _ _:=hw▸hz8.store (o:=0) hV8 (by decide) (.iface T9 (v9));have hR9:w9.heap[w.heap.size]? =some (.cells #[.nilIface] 299 (0,0)):=hw▸Qag (o:=0) hR8 (by omega) (.iface T9 (v9));have hV9:w9.heap[w.heap.size+1]? =some (.cells #[.iface T9 (v9)] 299 (0,0)):=hw▸Qac (o:=0) hV8 (.iface T9 (v9));have hT9:w9.heap[w2.heap.size]? =some (.cells u.row 122 (0,0)):=hw▸Qag (o:=0) hT8 (by omega) (.iface T9 (v9))
          have hB9:w9.heap[w7.heap.size]? =some (.cells #[.iface T9 v9] 299 (0,0)):=hw▸Qag (o:=0) hB8 (by omega) (.iface T9 (v9));have hX9:Ext (·=bp) w w9:=hw▸hX8.set (p:=⟨w.heap.size+1,0,none⟩) (.inr (show w.heap.size≤w.heap.size+1 by omega)) (.iface T9 (v9));have hs9:w8.heap.size≤w9.heap.size:=by rw[←hw];simp
          have hp_w9:PS w9 bp base _:=hw▸hp8.set (o:=0) (show base≤w.heap.size+1 by omega) (.iface T9 (v9));clear hz8 hR8 hV8 hT8 hB8 hX8 hp8 c_hB_0 c_hV_0 f_hV lt_hV lt_hR hw;have c_hV_0:=Qaa (o:=0) hV9 rfl;have c_hR_0:=Qaa (o:=0) hR9 rfl;have f_hR:=Qae hR9 0;have lt_hR:=Qad hR9;have HR:=Hi (HPS.out);have HB:=Hi hR9;clear hR9;go_wp2;refine Qai (R:=w.heap.size) _ 2 3 (by kernel_rfl) rfl rfl rfl (Qac (o:=0) HB.out _) ?_
          exact(Qal HR.out (hX9.set (p:=⟨w.heap.size,0,none⟩) (.inr (show _≤w.heap.size by omega)) _) (hp_w9.set (o:=0) (by omega) _) (NodeIs.store (o:=0) (hz9) HB.out (by decide) _))
        | false =>
         have h_k:=ht;clear ht;have c_hR_0:=Qaa (o:=0) hR6 rfl;have c_hV_0:=Qaa (o:=0) hV6 rfl;have lt_hR:=Qad hR6;have lt_hV:=Qad hV6;have HR:=Hi (show primary L E (u::q)=none by unfold Pg.primary;simp only[tx,ty,hd,Xf,if_false,if_true,h_i,h_s,h_true,h_false,h_n,h_b,h_e,h_k]);have HB:=Hi (Xc hR6 hV6);clear hR6 hV6 hT6
         go_upto_region 3 with(fail)
         go_region_with(go_at_call 95;refine(QbS (w0:=w6) hp6 (Ext.refl _ _).drew _ _).mono ?_;rintro e wq ⟨T7,v7,rfl,hq⟩;have cq1:=hq.cell (fun k=>k) c_hV_0;have cq2:=hq.cell (fun k=>k) c_hR_0;have cq3:=Qae (hq.heap (fun k=>k) HB.out.1) 0)
         all_goals go_wp2
         all_goals refine Qai (R:=w.heap.size) _ 2 3 (by kernel_rfl) rfl rfl rfl (Qac (o:=0) (hq.heap (fun k=>k) HB.out.1) _) ?_
         all_goals exact Qak HR.out ((hX6.trans' hq (fun _ k=>k.elim)).set (p:=⟨w.heap.size,0,none⟩) (.inr (Xb _)) _)
end Go.Proofs.Pg
namespace Go.Proofs.Pg
open Go.RowKit
theorem expr_c{L:Lex}(hL:LexC L)(hext:∀s,L.ext s=(extM s).map (·.2)){bp base:Nat}:∀N,FnC 149 (expr L N) bp base N
 | 0=>fun w ts hp hwf hN hbs=>by
  cases ts with
  | nil=>exact absurd rfl hp.ne
  | cons t ts=>simp at hN
 | N+1=>by
  have hC:=expr_c hL hext (bp:=bp) (base:=base) N;have hE:=QdZ (L:=L) N;have h41:=Qg9 (L:=L) hE hC;have h93:=QgA (L:=L) hE hC;have hR:=record_w hL hE hC;have hI:=fun w ts r0 g0 hp hwf hg0 hN hbs hz=>entExt_w hL hext hE h41 w ts r0 g0 hp hwf hg0 hN hbs hz
  have hP:=QgU hL hE hC h93 hR hI;have hA:=access_w hL hext hE h41;have hM:=member_w hE hP hA;have hU:=unary_w hL hE hM;have hMu:=mult_w hE hU;have hAd:=add_w hE hMu;have hRe:=rel_w hE hAd (has_w hL) (like_w hL) (is_w hE hAd);have hAn:=and_w hE hRe;have hOr:=or_w hE hAn;exact expr_w hE hOr hC
end Go.Proofs.Pg
namespace Go.Proofs.Pg
open Go.RowKit Go.Proofs.Tryz
attribute [local go_sem] Oper.semAt_some
theorem Qc7{W:World}{fn:Func}{R:Nat}{x y err:Value}{Q:Ending→World→Prop}(a:Act)(s s2:Nat)(hf:fn.results=#[.cell s 167,.tmp s2])(ha:a.tmps.getD s undef=.pointer (some ⟨R,0,none⟩))(he:a.tmps.getD s2 undef=err)(had:a.defers=[])
  (r:W.heap[R]? =some (.cells #[x,y] 167 (0,0)))(h:Q (.returned (.tuple #[.agg #[x,y],err])) W):bodyPost prog fn Q Exit.ret a W:=by
 refine bodyPost_ret (QaH (a:=s) (t:=167) hf _ ⟨R,0,none⟩ ha _ _ (QeP _ _ _ _ _ (by kernel_rfl) (by kernel_rfl) (Qaa (o:=0) r rfl) (Qaa (o:=1) r rfl))) had ?_;rw[he];exact h
def UidP(bp base:Nat)(w:World)(r:Option ((ByteArray×ByteArray)×Toks))(e:Ending)(w':World):Prop :=
 Ext (·=bp) w w'∧match r with
 | none=>∃a b T,∃v:EVal base w' T,e=.returned (.tuple #[.agg #[.string a,.string b],.iface T v.1])
 | some ((t,i),us)=>e=.returned (.tuple #[.agg #[.string t,.string i],.nilIface])∧PS w' bp base us
theorem Qcn{bp base:Nat}{w w':World}{r:Option ((ByteArray×ByteArray)×Toks)}{T:TypeId}{w9:World}{v:EVal base w9 T}{a b:ByteArray}(h:r=none)(hX:Ext (·=bp) w w')(hk:∀d,OkB w9 d→OkB w' d:=by intro _ h;repeat (first | exact h | apply Qiq | apply Qip)):UidP bp base w r (.returned (.tuple #[.agg #[.string a,.string b],.iface T v.1])) w':=by subst h;exact⟨hX,_,_,_,v.to hk,rfl⟩
theorem Qey{bp base:Nat}{w w':World}{r:Option ((ByteArray×ByteArray)×Toks)}{t i:ByteArray}{us:Toks}(h:r=some ((t,i),us))(hX:Ext (·=bp) w w')(hp:PS w' bp base us):UidP bp base w r (.returned (.tuple #[.agg #[.string t,.string i],.nilIface])) w':=by subst h;exact⟨hX,rfl,hp⟩
def EnRel(m:Nat→ByteArray→Toks→Option ((ByteArray×ByteArray)×Toks))(bp base N R V:Nat)(w:World)(Rm:Option ((ByteArray×ByteArray)×Toks))(wr:World):Prop :=
 ∃g r vs,m g r vs=Rm∧vs.length<g∧Wf vs∧vs.length≤N∧PS wr bp base vs∧wr.heap[R]? =some (.cells #[.string ⟨#[]⟩,.string ⟨#[]⟩] 167 (0,0))∧wr.heap[V]? =some (.cells #[.string r,.string ⟨#[]⟩] 167 (0,0))∧Ext (·=bp) w wr∧r.size+vs.length*1000002≤2000000000000
theorem entL_w{L:Lex}(hL:LexC L){bp base:Nat}(w:World)(ts:Toks)(r0:ByteArray)(g0:Nat)(hp:PS w bp base ts)(hwf:Wf ts)(hg0:ts.length<g0)(hbs:base≤w.heap.size)(hz:r0.size+ts.length*1000002≤2000000000000) :
  Calls prog 142 #[.pointer (some ⟨bp,0,none⟩),.string r0] w (UidP bp base w (entL L g0 r0 ts)):=by
 have hbb:=hp.hbp;have h15:=hp.h15;have hlen:=hp.len;have HL:=Hi hL;clear hL;go_enter func142,ntmps142
 go_upto_region 3 with(fail)
 obtain⟨w1,hw⟩:∃w1,((w.alloc (.cells #[.string ⟨#[]⟩,.string ⟨#[]⟩] 167)).alloc (.cells #[.string r0,.string ⟨#[]⟩] 167))=w1:=⟨_,rfl⟩
 rw[hw];have hF:Below w.heap.size w w1:=by rw[←hw];exact(Qab w _).alloc (by simp) _
 have hR1:w1.heap[w.heap.size]? =some (.cells #[.string ⟨#[]⟩,.string ⟨#[]⟩] 167 (0,0)):=by rw[←hw];exact Qaf (Qah (by simp) _) _
 have hV1:w1.heap[w.heap.size+1]? =some (.cells #[.string r0,.string ⟨#[]⟩] 167 (0,0)):=by rw[←hw];exact Qah (by simp) _
 have hs1:w.heap.size+2≤w1.heap.size:=by rw[←hw];simp
 clear hw;have hX1:Ext (·=bp) w w1:=.below hF;have hp1:=hp.below hF;clear hp;clear hF
 go_loopw [7] (fun _ wr=>EnRel (entL L) bp base ts.length (w.heap.size) (w.heap.size+1) w (entL L g0 r0 ts) wr) (fun _ wr=>left wr bp)
 case atStart=>exact⟨g0,r0,ts,rfl,hg0,hwf,Xb _,hp1,hR1,hV1,hX1,hz⟩
 case round =>
  clear hp1 hR1 hV1 hX1 hwf hg0 hz;obtain⟨wo,rfl⟩:∃wo:World,wo=wr:=⟨_,rfl⟩
  obtain⟨g,r1,vs,hg,hgl,hvw,hvN,hp_wo,hR_wo,hV_wo,hX_wo,hzr⟩:=hrel;have HG:=Hi hg;clear hg;cases g with
  | zero=>omega
  | succ g =>
  obtain⟨u,q,rfl⟩:∃u q,vs=u::q:=by cases vs with | nil=>exact absurd rfl hp_wo.ne | cons u q=>exact⟨u,q,rfl⟩
  have HLF:=Hi hp_wo.left;have hsz_wo:=hX_wo.size;have ltV:=Qad hV_wo;have hul:(u::q).length≤1000000:=hp_wo.len;have hwa:=hvw.adv;cases ht:(u.tx.toList==[58,58])with
  | false =>
   go_wp2_with fail
   refine(Qa9 hp_wo ht).mono ?_;rintro e w2⟨T9,v9,rfl,hp2,hF⟩;have hR2:=hF.heap (by omega) hR_wo;have hV2:=hF.heap (by omega) hV_wo;have hs2:=hF.size;have hX2:=hX_wo.trans hF;clear hR_wo hV_wo hX_wo hp_wo;clear hF;obtain⟨c_hR_0,c_hR_1⟩:=Cl2 hR2 rfl rfl;obtain⟨c_hV_0,c_hV_1⟩:=Cl2 hV2 rfl rfl;have f_hR:=Qae hR2 0;have g_hR:w2.frozen? ⟨w.heap.size,1,none⟩=false:=Qae hR2 1;have lt_hR:=Qad hR2;have lt_hV:=Qad hV2
   have HR:=Hi (show entL L g0 r0 ts=none by rw[←HG.out,entL];simp only[exact,tx,Xf,if_false,if_true,ty,hd,ht]);have HB:=Hi hR2;clear hR2 hV2;go_wp2;refine Qc7 (R:=w.heap.size) _ 4 5 (by kernel_rfl) rfl rfl rfl (Qac (o:=1) (Qac (o:=0) HB.out _) _) ?_;exact Qcn HR.out ((hX2.set (p:=⟨w.heap.size,0,none⟩) (.inr (show _≤w.heap.size by omega)) _).set (p:=⟨w.heap.size,1,none⟩) (.inr (show _≤w.heap.size by omega)) _)
  | true =>
   have hla:(adv (u::q)).length<(u::q).length:=Qax hvw (s:=[58,58]) ht (by decide);obtain⟨u2,q2,ha2⟩:∃a b,adv (u::q)=a::b:=by
    cases h:adv (u::q)with
    | nil=>rw[h]at hwa;exact absurd rfl hwa.ne
    | cons a b=>exact⟨a,b,rfl⟩
   go_wp2_with fail
   refine(Qa0 hp_wo ht).mono ?_;rintro e w2⟨rfl,hp2,hF⟩;have hR2:=hF.heap (by omega) hR_wo;have hV2:=hF.heap (by omega) hV_wo;have hs2:=hF.size;have hX2:=hX_wo.trans hF;clear hR_wo hV_wo hX_wo hp_wo;clear hF;rw[ha2]at hwa hla hp2;have HA2:=Hi ha2;clear ha2;have htz:=hp2.sz
   go_wp2_with fail
   refine(Qaz hp2).mono ?_;rintro e w3⟨rfl,hp3,hF⟩;have hR3:=hF.heap (by omega) hR2;have hV3:=hF.heap (by omega) hV2;have hs3:=hF.size;have hX3:=hX2.trans hF;clear hR2 hV2 hX2 hp2;clear hF;have hlb:(adv (u2::q2)).length≤(u2::q2).length:=(Qam hwa).len
   go_wp2_with fail
   obtain⟨w4,hw⟩:∃w4,w3.alloc (.cells u2.row 122)=w4:=⟨_,rfl⟩
   rw[hw];have hF:Below w3.heap.size w3 w4:=by rw[←hw];exact Qab _ _
   have hK24:w4.heap[w3.heap.size]? =some (.cells u2.row 122 (0,0)):=by rw[←hw];exact Xa _ _
   have hs4:w3.heap.size+1≤w4.heap.size:=by rw[←hw];simp
   clear hw;have hR4:=Bk hF hR3;have hV4:=Bk hF hV3;have hX4:=hX3.trans (.below hF);have hp4:=hp3.below hF;clear hR3 hV3 hX3 hp3;clear hF;obtain⟨c_hK2_0,c_hK2_1,c_hK2_2,c_hK2_3,c_hK2_4,c_hK2_5⟩:=Cl6 hK24 rfl rfl rfl rfl rfl rfl
   go_wp2_with fail
   refine(Qbd u2 _).mono ?_;rintro e w5⟨rfl,hF⟩;have hR5:=Bk hF hR4;have hV5:=Bk hF hV4;have hK25:=Bk hF hK24;have hs5:=hF.size;have hX5:=hX4.trans (.below hF);have hp5:=hp4.below hF;clear hR4 hV4 hK24 hX4 hp4 c_hK2_0 c_hK2_1 c_hK2_2 c_hK2_3 c_hK2_4 c_hK2_5;clear hF;cases hi:(u2.ty==1)with
   | true =>
    have c_hK2_5:=Qaa (o:=5) hK25 rfl;obtain⟨c_hV_0,c_hV_1⟩:=Cl2 hV5 rfl rfl;have f_hV:=Qae hV5 0;have lt_hV:=Qad hV5;have e2:(⟨#[58,58]⟩:ByteArray).size=2:=rfl;have HGG:=Hi (show entL L g (r1++(⟨#[58,58]⟩:ByteArray)++u2.tx) (adv (u2::q2))=entL L g0 r0 ts by rw[←HG.out,entL];simp only[exact,tx,Xf,if_false,if_true,ty,hd,ht,HA2.out,hi]);have HB:=Hi (Xc hV5 hR5);clear hV5 hR5;go_wp2;go_roundw
    case rel=>exact⟨g,_,_,HGG.out,by omega,hwa.adv,by omega,hp5.set (o:=0) (by omega) _,Qag HB.out.2 (by omega) _,Qac (o:=0) HB.out.1 _,hX5.set (p:=⟨w.heap.size+1,0,none⟩) (.inr (show _≤w.heap.size+1 by omega)) _,by rw[ByteArray.size_append,ByteArray.size_append,e2];omega⟩
    case measure =>
     rw[(hp5.set (d:=w.heap.size+1) (o:=0) (by omega) (.string (r1++(⟨#[58,58]⟩:ByteArray)++u2.tx))).left,HLF.out];omega
   | false =>
    obtain⟨c_hK2_0,c_hK2_1,c_hK2_2,c_hK2_3,c_hK2_4,c_hK2_5⟩:=Cl6 hK25 rfl rfl rfl rfl rfl rfl
    go_wp2_with fail
    refine(QbY u2 _).mono ?_;rintro e w6⟨rfl,hF⟩;have hR6:=Bk hF hR5;have hV6:=Bk hF hV5;have hK26:=Bk hF hK25;have hs6:=hF.size;have hX6:=hX5.trans (.below hF);have hp6:=hp5.below hF;clear hR5 hV5 hK25 hX5 hp5 c_hK2_0 c_hK2_1 c_hK2_2 c_hK2_3 c_hK2_4 c_hK2_5;clear hF;cases hj:(u2.ty==4)with
    | false =>
     obtain⟨c_hR_0,c_hR_1⟩:=Cl2 hR6 rfl rfl;obtain⟨c_hV_0,c_hV_1⟩:=Cl2 hV6 rfl rfl;have lt_hR:=Qad hR6;have lt_hV:=Qad hV6;have HR:=Hi (show entL L g0 r0 ts=none by rw[←HG.out,entL];simp only[exact,tx,Xf,if_false,if_true,ty,hd,ht,HA2.out,hi,hj]);have HB:=Hi (Xc hR6 hV6);clear hR6 hV6 hK26
     go_upto_region 7 with(fail)
     go_region_with(go_at_call 95;refine(QbS (w0:=w6) hp6 (Ext.refl _ _).drew _ _).mono ?_;rintro e wq ⟨T7,v7,rfl,hq⟩;have cq1:=hq.cell (fun k=>k) c_hV_0;have cq2:=hq.cell (fun k=>k) c_hR_0;have cq4:=hq.cell (fun k=>k) c_hV_1;have cq5:=hq.cell (fun k=>k) c_hR_1;have cq3:=Qae (hq.heap (fun k=>k) HB.out.1) 0;have cq6:=Qae (hq.heap (fun k=>k) HB.out.1) 1)
     all_goals go_wp2
     all_goals refine Qc7 (R:=w.heap.size) _ 4 5 (by kernel_rfl) rfl rfl rfl (Qac (o:=1) (Qac (o:=0) (hq.heap (fun k=>k) HB.out.1) _) _) ?_
     all_goals exact Qcn HR.out (((hX6.trans' hq (fun _ k=>k.elim)).set (p:=⟨w.heap.size,0,none⟩) (.inr (Xb _)) _).set (p:=⟨w.heap.size,1,none⟩) (.inr (Xb _)) _)
    | true =>
     obtain⟨c_hK2_0,c_hK2_1,c_hK2_2,c_hK2_3,c_hK2_4,c_hK2_5⟩:=Cl6 hK26 rfl rfl rfl rfl rfl rfl
     go_wp2_with fail
     refine(HL.out.str u2 _ hp6.g (by omega) htz hp6.hbs).mono ?_;rintro e w7⟨hF,hr⟩;have hR7:=Bk hF hR6;have hV7:=Bk hF hV6;have hK27:=Bk hF hK26;have hs7:=hF.size;have hX7:=hX6.trans (.below hF);have hp7:=hp6.below hF;clear hR6 hV6 hK26 hX6 hp6 c_hK2_0 c_hK2_1 c_hK2_2 c_hK2_3 c_hK2_4 c_hK2_5;clear hF;cases hm:L.str u2.tx with
     | none =>
      rw[hm]at hr;obtain⟨s9,T9,v9,rfl⟩:=hr;obtain⟨c_hR_0,c_hR_1⟩:=Cl2 hR7 rfl rfl;obtain⟨c_hV_0,c_hV_1⟩:=Cl2 hV7 rfl rfl;have f_hR:=Qae hR7 0;have g_hR:w7.frozen? ⟨w.heap.size,1,none⟩=false:=Qae hR7 1;have lt_hR:=Qad hR7;have lt_hV:=Qad hV7;have HR:=Hi (show entL L g0 r0 ts=none by rw[←HG.out,entL];simp only[exact,tx,Xf,if_false,if_true,ty,hd,ht,HA2.out,hi,hj,hm]);have HB:=Hi hR7;clear hR7 hV7;go_wp2
      refine Qc7 (R:=w.heap.size) _ 4 5 (by kernel_rfl) rfl rfl rfl (Qac (o:=1) (Qac (o:=0) HB.out _) _) ?_;exact Qcn HR.out ((hX7.set (p:=⟨w.heap.size,0,none⟩) (.inr (show _≤w.heap.size by omega)) _).set (p:=⟨w.heap.size,1,none⟩) (.inr (show _≤w.heap.size by omega)) _)
     | some s =>
      rw[hm]at hr;obtain⟨rfl,hsz⟩:=hr;have HR:=Hi (show entL L g0 r0 ts=some ((r1,s),adv (u2::q2))by rw[←HG.out,entL];simp only[exact,tx,Xf,if_false,if_true,ty,hd,ht,HA2.out,hi,hj,hm]);clear hm;obtain⟨c_hR_0,c_hR_1⟩:=Cl2 hR7 rfl rfl;obtain⟨c_hV_0,c_hV_1⟩:=Cl2 hV7 rfl rfl;have f_hR:=Qae hR7 0;have g_hR:w7.frozen? ⟨w.heap.size,1,none⟩=false:=Qae hR7 1;have f_hV:=Qae hV7 0;have g_hV:w7.frozen? ⟨w.heap.size+1,1,none⟩=false:=Qae hV7 1
      have lt_hR:=Qad hR7;have lt_hV:=Qad hV7;have HB:=Hi hR7;clear hR7 hV7;go_wp2;refine Qc7 (R:=w.heap.size) _ 4 5 (by kernel_rfl) rfl rfl rfl (Qac (o:=1) (Qac (o:=0) (Qag HB.out (by omega) _) _) _) ?_;exact Qey HR.out (((hX7.set (p:=⟨w.heap.size+1,1,none⟩) (.inr (show _≤w.heap.size+1 by omega)) _).set (p:=⟨w.heap.size,0,none⟩) (.inr (Xb _)) _).set (p:=⟨w.heap.size,1,none⟩) (.inr (Xb _)) _) (((hp7.set (d:=w.heap.size+1) (o:=1) (by omega) _).set (d:=w.heap.size) (o:=0) (by omega) _).set (d:=w.heap.size) (o:=1) (by omega) _)
theorem Qb2{L:Lex}(hL:LexC L){bp base:Nat}(w:World)(ts:Toks)(hp:PS w bp base ts)(hwf:Wf ts)(hbs:base≤w.heap.size) :
  Calls prog 96 #[.pointer (some ⟨bp,0,none⟩)] w (UidP bp base w (entity L ts)):=by
 have hbb:=hp.hbp;have h15:=hp.h15;have hlen:=hp.len;have HL:=Hi hL;clear hL;obtain⟨u,q,rfl⟩:∃u q,ts=u::q:=by cases ts with | nil=>exact absurd rfl hp.ne | cons u q=>exact⟨u,q,rfl⟩
 have htz:=hp.sz;have hwa:=hwf.adv;have hla:(adv (u::q)).length≤(u::q).length:=(Qam hwf).len;go_enter func96,ntmps96
 go_upto_region 2 with(fail)
 obtain⟨w1,hw⟩:∃w1,((w.alloc (.cells #[.string ⟨#[]⟩,.string ⟨#[]⟩] 167)).alloc (.cells #[.string ⟨#[]⟩,.string ⟨#[]⟩] 167))=w1:=⟨_,rfl⟩
 rw[hw];have hF:Below w.heap.size w w1:=by rw[←hw];exact(Qab w _).alloc (by simp) _
 have hR1:w1.heap[w.heap.size]? =some (.cells #[.string ⟨#[]⟩,.string ⟨#[]⟩] 167 (0,0)):=by rw[←hw];exact Qaf (Qah (by simp) _) _
 have hV1:w1.heap[w.heap.size+1]? =some (.cells #[.string ⟨#[]⟩,.string ⟨#[]⟩] 167 (0,0)):=by rw[←hw];exact Qah (by simp) _
 have hs1:w.heap.size+2≤w1.heap.size:=by rw[←hw];simp
 clear hw;have hX1:Ext (·=bp) w w1:=.below hF;have hp1:=hp.below hF;clear hp;clear hF
 go_wp2_with fail
 refine(Qaz hp1).mono ?_;rintro e w2⟨rfl,hp2,hF⟩;have hR2:=hF.heap (by omega) hR1;have hV2:=hF.heap (by omega) hV1;have hs2:=hF.size;have hX2:=hX1.trans hF;clear hR1 hV1 hX1 hp1;clear hF
 go_upto_region 3 with(fail)
 obtain⟨w3,hw⟩:∃w3,w2.alloc (.cells u.row 122)=w3:=⟨_,rfl⟩
 rw[hw];have hF:Below w2.heap.size w2 w3:=by rw[←hw];exact Qab _ _
 have hT3:w3.heap[w2.heap.size]? =some (.cells u.row 122 (0,0)):=by rw[←hw];exact Xa _ _
 have hs3:w2.heap.size+1≤w3.heap.size:=by rw[←hw];simp
 clear hw;have hR3:=Bk hF hR2;have hV3:=Bk hF hV2;have hX3:=hX2.trans (.below hF);have hp3:=hp2.below hF;clear hR2 hV2 hX2 hp2;clear hF;obtain⟨c_hT_0,c_hT_1,c_hT_2,c_hT_3,c_hT_4,c_hT_5⟩:=Cl6 hT3 rfl rfl rfl rfl rfl rfl
 go_wp2_with fail
 refine(Qbd u _).mono ?_;rintro e w4⟨rfl,hF⟩;have hR4:=Bk hF hR3;have hV4:=Bk hF hV3;have hT4:=Bk hF hT3;have hs4:=hF.size;have hX4:=hX3.trans (.below hF);have hp4:=hp3.below hF;clear hR3 hV3 hT3 hX3 hp3 c_hT_0 c_hT_1 c_hT_2 c_hT_3 c_hT_4 c_hT_5;clear hF;cases hi:(u.ty==1)with
 | false =>
  obtain⟨c_hR_0,c_hR_1⟩:=Cl2 hR4 rfl rfl;obtain⟨c_hV_0,c_hV_1⟩:=Cl2 hV4 rfl rfl;have lt_hR:=Qad hR4;have lt_hV:=Qad hV4;have HR:=Hi (show entity L (u::q)=none by unfold Pg.entity;simp[ty,hd,hi]);have HB:=Hi (Xc hR4 hV4);clear hR4 hV4 hT4
  go_upto_region 4 with(fail)
  go_region_with(go_at_call 95;refine(QbS (w0:=w4) hp4 (Ext.refl _ _).drew _ _).mono ?_;rintro e wq ⟨T7,v7,rfl,hq⟩;have cq1:=hq.cell (fun k=>k) c_hV_0;have cq2:=hq.cell (fun k=>k) c_hR_0;have cq4:=hq.cell (fun k=>k) c_hV_1;have cq5:=hq.cell (fun k=>k) c_hR_1;have cq3:=Qae (hq.heap (fun k=>k) HB.out.1) 0;have cq6:=Qae (hq.heap (fun k=>k) HB.out.1) 1)
  all_goals go_wp2
  all_goals refine Qc7 (R:=w.heap.size) _ 2 3 (by kernel_rfl) rfl rfl rfl (Qac (o:=1) (Qac (o:=0) (hq.heap (fun k=>k) HB.out.1) _) _) ?_
  all_goals exact Qcn HR.out (((hX4.trans' hq (fun _ k=>k.elim)).set (p:=⟨w.heap.size,0,none⟩) (.inr (Xb _)) _).set (p:=⟨w.heap.size,1,none⟩) (.inr (Xb _)) _)
 | true =>
  have hlt:(adv (u::q)).length<(u::q).length:=QbZ hwf (k:=1) hi (by decide);have c_hT_5:=Qaa (o:=5) hT4 rfl
  go_wp2_with fail
  refine(entL_w HL.out _ _ u.tx ((u::q).length+1) hp4 hwa (by omega) (by omega) (by omega)).mono ?_;rintro e w5⟨hF,hr⟩;have hR5:=hF.heap (by omega) hR4;have hV5:=hF.heap (by omega) hV4;have hT5:=hF.heap (by omega) hT4;have hs5:=hF.size;have hX5:=hX4.trans hF;clear hR4 hV4 hT4 hX4 c_hT_5;clear hF;have HE:=Hi (show entity L (u::q)=entL L ((u::q).length+1) u.tx (adv (u::q))by unfold Pg.entity;simp[ty,hd,hi])
  cases hm:entL L ((u::q).length+1) u.tx (adv (u::q))with
  | none =>
   rw[hm]at hr;obtain⟨a9,b9,T9,v9,rfl⟩:=hr;obtain⟨c_hR_0,c_hR_1⟩:=Cl2 hR5 rfl rfl;have f_hR:=Qae hR5 0;have g_hR:w5.frozen? ⟨w.heap.size,1,none⟩=false:=Qae hR5 1;have lt_hR:=Qad hR5;have HR:=Hi (show entity L (u::q)=none by rw[HE.out,hm]);have HB:=Hi hR5;clear hR5 hm;go_wp2;refine Qc7 (R:=w.heap.size) _ 2 3 (by kernel_rfl) rfl rfl rfl (Qac (o:=1) (Qac (o:=0) HB.out _) _) ?_;exact Qcn HR.out ((hX5.set (p:=⟨w.heap.size,0,none⟩) (.inr (Xb _)) _).set (p:=⟨w.heap.size,1,none⟩) (.inr (Xb _)) _)
  | some p9 =>
   obtain⟨⟨t9,i9⟩,us⟩:=p9;rw[hm]at hr;obtain⟨rfl,hp9⟩:=hr;obtain⟨c_hR_0,c_hR_1⟩:=Cl2 hR5 rfl rfl;have f_hR:=Qae hR5 0;have g_hR:w5.frozen? ⟨w.heap.size,1,none⟩=false:=Qae hR5 1;have lt_hR:=Qad hR5;have HR:=Hi (show entity L (u::q)=some ((t9,i9),us)by rw[HE.out,hm]);have HB:=Hi hR5;clear hR5 hm;go_wp2;refine Qc7 (R:=w.heap.size) _ 2 3 (by kernel_rfl) rfl rfl rfl (Qac (o:=1) (Qac (o:=0) HB.out _) _) ?_
   exact Qey HR.out ((hX5.set (p:=⟨w.heap.size,0,none⟩) (.inr (Xb _)) _).set (p:=⟨w.heap.size,1,none⟩) (.inr (Xb _)) _) ((hp9.set (d:=w.heap.size) (o:=0) (by omega) _).set (d:=w.heap.size) (o:=1) (by omega) _)
def cond(E:Toks→Option (Ex×Toks))(ts:Toks):Option (Ex×Toks):=match exact [123] ts with
 | none=>none
 | some us=>match E us with
  | none=>none
  | some (x,vs)=>match exact [125] vs with
   | none=>none
   | some zs=>some (x,zs)
def CondP(bp base:Nat)(w:World)(r:Option (Ex×Toks))(e:Ending)(w':World):Prop :=
 Ext (·=bp) w w'∧match r with
 | none=>∃n T,∃v:EVal base w' T,(n=.nilIface∨∃T' v',n=Value.iface T' v')∧e=.returned (.tuple #[.agg #[n],.iface T v.1])
 | some (x,us)=>∃T v,e=.returned (.tuple #[.agg #[.iface T v],.nilIface])∧PS w' bp base us∧NodeIs w' base (.iface T v) x
theorem QdK{bp base:Nat}{w w':World}{r:Option (Ex×Toks)}{T:TypeId}{w9:World}{v:EVal base w9 T}(h:r=none)(hX:Ext (·=bp) w w')(hk:∀d,OkB w9 d→OkB w' d:=by intro _ h;repeat (first | exact h | apply Qiq | apply Qip)):CondP bp base w r (.returned (.tuple #[.agg #[.nilIface],.iface T v.1])) w':=by subst h;exact⟨hX,_,_,v.to hk,.inl rfl,rfl⟩
theorem QeX{bp base:Nat}{w w':World}{r:Option (Ex×Toks)}{T T':TypeId}{w9:World}{v:EVal base w9 T}{v':Value}(h:r=none)(hX:Ext (·=bp) w w')(hk:∀d,OkB w9 d→OkB w' d:=by intro _ h;repeat (first | exact h | apply Qiq | apply Qip)):CondP bp base w r (.returned (.tuple #[.agg #[.iface T' v'],.iface T v.1])) w':=by subst h;exact⟨hX,_,_,v.to hk,.inr ⟨_,_,rfl⟩,rfl⟩
theorem Qgb{bp base:Nat}{w w':World}{r:Option (Ex×Toks)}{us:Toks}{T:TypeId}{v:Value}{x:Ex}(h:r=some (x,us))(hX:Ext (·=bp) w w')(hp:PS w' bp base us)(hn:NodeIs w' base (.iface T v) x):CondP bp base w r (.returned (.tuple #[.agg #[.iface T v],.nilIface])) w':=by subst h;exact⟨hX,_,_,rfl,hp,hn⟩
theorem cond_w{E:Toks→Option (Ex×Toks)}{bp base N:Nat}(hE:Sh E)(hC:FnC 149 E bp base N)(w:World)(ts:Toks)(hp:PS w bp base ts)(hwf:Wf ts)(hN:ts.length≤N)(hbs:base≤w.heap.size) :
  Calls prog 110 #[.pointer (some ⟨bp,0,none⟩)] w (CondP bp base w (cond E ts)):=by
 have hbb:=hp.hbp;have h15:=hp.h15;have hlen:=hp.len;have HC:=Hi hC;have HE:=Hi hE;clear hC hE;obtain⟨u,q,rfl⟩:∃u q,ts=u::q:=by cases ts with | nil=>exact absurd rfl hp.ne | cons u q=>exact⟨u,q,rfl⟩
 have hwa:=hwf.adv;have hla:(adv (u::q)).length≤(u::q).length:=(Qam hwf).len;go_enter func110,ntmps110
 go_upto_region 3 with(fail)
 obtain⟨w1,hw⟩:∃w1,((w.alloc (.cells #[.nilIface] 299)).alloc (.cells #[.nilIface] 299))=w1:=⟨_,rfl⟩
 rw[hw];have hF:Below w.heap.size w w1:=by rw[←hw];exact(Qab w _).alloc (by simp) _
 have hR1:w1.heap[w.heap.size]? =some (.cells #[.nilIface] 299 (0,0)):=by rw[←hw];exact Qaf (Qah (by simp) _) _
 have hV1:w1.heap[w.heap.size+1]? =some (.cells #[.nilIface] 299 (0,0)):=by rw[←hw];exact Qah (by simp) _
 have hs1:w.heap.size+2≤w1.heap.size:=by rw[←hw];simp
 clear hw;have hX1:Ext (·=bp) w w1:=.below hF;have hp1:=hp.below hF;clear hp;clear hF;cases ht:(u.tx.toList==[123])with
 | false =>
  go_wp2_with fail
  refine(Qa9 hp1 ht).mono ?_;rintro e w2⟨T9,v9,rfl,hp2,hF⟩;have hR2:=hF.heap (by omega) hR1;have hV2:=hF.heap (by omega) hV1;have hs2:=hF.size;have hX2:=hX1.trans hF;clear hR1 hV1 hX1 hp1;clear hF;have c_hR_0:=Qaa (o:=0) hR2 rfl;have f_hR:=Qae hR2 0;have c_hV_0:=Qaa (o:=0) hV2 rfl;have lt_hR:=Qad hR2;have lt_hV:=Qad hV2;have HR:=Hi (show cond E (u::q)=none by simp[cond,exact,tx,ht]);have HB:=Hi hR2;clear hR2 hV2
  go_wp2;refine Qai (R:=w.heap.size) _ 2 3 (by kernel_rfl) rfl rfl rfl (Qac (o:=0) HB.out _) ?_;exact QdK HR.out (hX2.set (p:=⟨w.heap.size,0,none⟩) (.inr (Xb _)) _)
 | true =>
  go_wp2_with fail
  refine(Qa0 hp1 ht).mono ?_;rintro e w2⟨rfl,hp2,hF⟩;have hR2:=hF.heap (by omega) hR1;have hV2:=hF.heap (by omega) hV1;have hs2:=hF.size;have hX2:=hX1.trans hF;clear hR1 hV1 hX1 hp1;clear hF
  go_wp2_with fail
  refine(HC.out _ _ hp2 hwa (by omega) (by omega)).mono ?_;rintro e w3⟨hF,hr⟩;have hR3:=hF.heap (by omega) hR2;have hV3:=hF.heap (by omega) hV2;have hs3:=hF.size;have hX3:=hX2.trans hF;clear hR2 hV2 hX2;clear hF;cases hm:E (adv (u::q))with
  | none =>
   rw[hm]at hr;obtain⟨T9,v9,rfl⟩:=hr;have c_hV_0:=Qaa (o:=0) hV3 rfl;have f_hV:=Qae hV3 0;have lt_hV:=Qad hV3;have lt_hR:=Qad hR3
   go_upto_region 7 with(fail)
   obtain⟨w4,hw⟩:∃w4,w3.setCell ⟨w.heap.size+1,0,none⟩ (.nilIface)=w4:=⟨_,rfl⟩
   rw[hw];have hk9:∀d,OkB w3 d→OkB w4 d:=hw▸fun _ h=>Qiq h
   have hR4:w4.heap[w.heap.size]? =some (.cells #[.nilIface] 299 (0,0)):=hw▸Qag (o:=0) hR3 (by omega) (.nilIface);have hV4:w4.heap[w.heap.size+1]? =some (.cells #[.nilIface] 299 (0,0)):=hw▸Qac (o:=0) hV3 (.nilIface);have hX4:Ext (·=bp) w w4:=hw▸hX3.set (p:=⟨w.heap.size+1,0,none⟩) (.inr (show w.heap.size≤w.heap.size+1 by omega)) (.nilIface);have hs4:w3.heap.size≤w4.heap.size:=by rw[←hw];simp
   clear hR3 hV3 hX3 c_hV_0 f_hV lt_hV lt_hR hw;have c_hR_0:=Qaa (o:=0) hR4 rfl;have f_hR:=Qae hR4 0;have c_hV_0:=Qaa (o:=0) hV4 rfl;have lt_hR:=Qad hR4;have lt_hV:=Qad hV4;have HR:=Hi (show cond E (u::q)=none by simp[cond,exact,tx,ht,hm]);have HB:=Hi hR4;clear hR4 hV4;go_wp2;refine Qai (R:=w.heap.size) _ 2 3 (by kernel_rfl) rfl rfl rfl (Qac (o:=0) HB.out _) ?_;exact QdK HR.out (hX4.set (p:=⟨w.heap.size,0,none⟩) (.inr (Xb _)) _) (fun _ h=>Qiq (hk9 _ h))
  | some p2 =>
   obtain⟨x,us⟩:=p2;rw[hm]at hr;obtain⟨T9,v9,rfl,hp9,hn3⟩:=hr;have HM:=Hi hm;clear hm;obtain⟨u2,q2,rfl⟩:∃u q,us=u::q:=by cases us with | nil=>exact absurd rfl hp9.ne | cons u q=>exact⟨u,q,rfl⟩
   have c_hV_0:=Qaa (o:=0) hV3 rfl;have f_hV:=Qae hV3 0;have lt_hV:=Qad hV3;have lt_hR:=Qad hR3
   go_upto_region 7 with(fail)
   obtain⟨w4,hw⟩:∃w4,w3.setCell ⟨w.heap.size+1,0,none⟩ (.iface T9 v9)=w4:=⟨_,rfl⟩
   rw[hw];have hn4:NodeIs w4 base _ _:=hw▸hn3.store (o:=0) hV3 (by decide) (.iface T9 v9);have hR4:w4.heap[w.heap.size]? =some (.cells #[.nilIface] 299 (0,0)):=hw▸Qag (o:=0) hR3 (by omega) (.iface T9 v9);have hV4:w4.heap[w.heap.size+1]? =some (.cells #[.iface T9 v9] 299 (0,0)):=hw▸Qac (o:=0) hV3 (.iface T9 v9);have hX4:Ext (·=bp) w w4:=hw▸hX3.set (p:=⟨w.heap.size+1,0,none⟩) (.inr (show w.heap.size≤w.heap.size+1 by omega)) (.iface T9 v9)
   have hs4:w3.heap.size≤w4.heap.size:=by rw[←hw];simp
   have hp4:PS w4 bp base _:=hw▸hp9.set (o:=0) (show base≤w.heap.size+1 by omega) (.iface T9 v9);clear hn3 hR3 hV3 hX3 hp9 c_hV_0 f_hV lt_hV lt_hR hw;cases hj:(u2.tx.toList==[125])with
   | false =>
    go_wp2_with fail
    refine(Qa9 hp4 hj).mono ?_;rintro e w5⟨T8,v8,rfl,hp5,hF⟩;have hn5:=hn4.keep hF (fun d hd=>by omega);have hR5:=hF.heap (by omega) hR4;have hV5:=hF.heap (by omega) hV4;have hs5:=hF.size;have hX5:=hX4.trans hF;clear hn4 hR4 hV4 hX4 hp4;clear hF;have c_hR_0:=Qaa (o:=0) hR5 rfl;have f_hR:=Qae hR5 0;have c_hV_0:=Qaa (o:=0) hV5 rfl;have lt_hR:=Qad hR5;have lt_hV:=Qad hV5;have HR:=Hi (show cond E (u::q)=none by simp[cond,exact,tx,ht,HM.out,hj])
    have HB:=Hi hR5;clear hR5 hV5;go_wp2;refine Qai (R:=w.heap.size) _ 2 3 (by kernel_rfl) rfl rfl rfl (Qac (o:=0) HB.out _) ?_;exact QeX HR.out (hX5.set (p:=⟨w.heap.size,0,none⟩) (.inr (Xb _)) _)
   | true =>
    go_wp2_with fail
    refine(Qa0 hp4 hj).mono ?_;rintro e w5⟨rfl,hp5,hF⟩;have hn5:=hn4.keep hF (fun d hd=>by omega);have hR5:=hF.heap (by omega) hR4;have hV5:=hF.heap (by omega) hV4;have hs5:=hF.size;have hX5:=hX4.trans hF;clear hn4 hR4 hV4 hX4 hp4;clear hF;have c_hR_0:=Qaa (o:=0) hR5 rfl;have f_hR:=Qae hR5 0;have c_hV_0:=Qaa (o:=0) hV5 rfl;have lt_hR:=Qad hR5;have lt_hV:=Qad hV5;have HR:=Hi (show cond E (u::q)=some (x,adv (u2::q2))by simp[cond,exact,tx,ht,HM.out,hj])
    have HB:=Hi hR5;clear hR5 hV5;go_wp2;refine Qai (R:=w.heap.size) _ 2 3 (by kernel_rfl) rfl rfl rfl (Qac (o:=0) HB.out _) ?_;exact Qgb HR.out (hX5.set (p:=⟨w.heap.size,0,none⟩) (.inr (Xb _)) _) (hp5.set (o:=0) (by omega) _) (NodeIs.store (o:=0) hn5 HB.out (by decide) _)
theorem load0{P:Program}{t:TypeId}(b o:Nat)(w:World)(ha:(isAgg t).run P w=.ok true w)(hs:(sizeOf t).run P w=.ok 0 w) :
  (loadVar t ⟨b,o,none⟩).run P w=.ok (.agg #[]) w:=by
 simp only[loadVar,Sem.run_bind,ha,hs,Result.andThen_ok,Sem.run_pure,if_true];simp[loadCells,go_sem]
theorem load3{P:Program}{t:TypeId}(b o:Nat)(w:World)(v0 v1 v2:Value)(ha:(isAgg t).run P w=.ok true w)(hs:(sizeOf t).run P w=.ok 3 w)(h0:w.cell? ⟨b,o,none⟩=some v0)(h1:w.cell? ⟨b,o+1,none⟩=some v1)(h2:w.cell? ⟨b,o+1+1,none⟩=some v2) :
  (loadVar t ⟨b,o,none⟩).run P w=.ok (.agg #[v0,v1,v2]) w:=by
 simp only[loadVar,Sem.run_bind,ha,hs,Result.andThen_ok,Sem.run_pure,if_true];simp[loadCells,go_sem,h0,h1,h2]
theorem QeY(t i:ByteArray)(w:World):Calls prog 143 #[.agg #[],.agg #[.string t,.string i]] w fun e w'=>e=.returned (.agg #[.string t,.string i])∧Below w.heap.size w w':=by
 go_enter func143,ntmps143;go_wp2;exact bodyPost_ret (Qao (a:=4) (t:=169) (by kernel_rfl) _ ⟨w.heap.size+1+1,0,none⟩ rfl _ _ (QeP _ _ _ _ _ (by kernel_rfl) (by kernel_rfl) (Qaa (o:=0) (Qah (by simp) _) rfl) (Qaa (o:=1) (Qah (by simp) _) rfl))) rfl ⟨rfl,((Qab w _).alloc (by first | (simp;done) | (simp;omega)) _).alloc (by first | (simp;done) | (simp;omega)) _⟩
theorem QeZ(t i:ByteArray)(w:World):Calls prog 147 #[.agg #[],.agg #[.string t,.string i]] w fun e w'=>e=.returned (.agg #[.string t,.string i])∧Below w.heap.size w w':=by
 go_enter func147,ntmps147;go_wp2;exact bodyPost_ret (Qao (a:=4) (t:=171) (by kernel_rfl) _ ⟨w.heap.size+1+1,0,none⟩ rfl _ _ (QeP _ _ _ _ _ (by kernel_rfl) (by kernel_rfl) (Qaa (o:=0) (Qah (by simp) _) rfl) (Qaa (o:=1) (Qah (by simp) _) rfl))) rfl ⟨rfl,((Qab w _).alloc (by first | (simp;done) | (simp;omega)) _).alloc (by first | (simp;done) | (simp;omega)) _⟩
theorem QgV(s t i:ByteArray)(w:World):Calls prog 145 #[.agg #[],.string s,.agg #[.string t,.string i]] w fun e w'=>e=.returned (.agg #[.string s,.string t,.string i])∧Below w.heap.size w w':=by
 go_enter func145,ntmps145;go_wp2;exact bodyPost_ret (Qao (a:=6) (t:=178) (by kernel_rfl) _ ⟨w.heap.size+1+1,0,none⟩ rfl _ _ (load3 _ _ _ _ _ _ (by kernel_rfl) (by kernel_rfl) (Qaa (o:=0) (Qah (by simp) _) rfl) (Qaa (o:=1) (Qah (by simp) _) rfl) (Qaa (o:=2) (Qah (by simp) _) rfl))) rfl ⟨rfl,((Qab w _).alloc (by first | (simp;done) | (simp;omega)) _).alloc (by first | (simp;done) | (simp;omega)) _⟩
theorem QgW(s:ByteArray)(w:World):Calls prog 146 #[.agg #[],.string s] w fun e w'=>e=.returned (.agg #[.string s])∧Below w.heap.size w w':=by
 go_enter func146,ntmps146;go_wp2;exact bodyPost_ret (Qao (a:=4) (t:=176) (by kernel_rfl) _ ⟨w.heap.size+1,0,none⟩ rfl _ _ (QcP _ _ _ _ (by kernel_rfl) (by kernel_rfl) (Qaa (o:=0) (Qah (by simp) _) rfl))) rfl ⟨rfl,(Qab w _).alloc (by first | (simp;done) | (simp;omega)) _⟩
theorem sc148_c(p:Option Addr)(n c:Nat)(w:World):Calls prog 148 #[.agg #[],.slice p n c] w fun e w'=>e=.returned (.agg #[.slice p n c])∧Below w.heap.size w w':=by
 go_enter func148,ntmps148;go_wp2;exact bodyPost_ret (Qao (a:=4) (t:=174) (by kernel_rfl) _ ⟨w.heap.size+1,0,none⟩ rfl _ _ (QcP _ _ _ _ (by kernel_rfl) (by kernel_rfl) (Qaa (o:=0) (Qah (by simp) _) rfl))) rfl ⟨rfl,(Qab w _).alloc (by first | (simp;done) | (simp;omega)) _⟩
theorem Qfa(w:World):Calls prog 173 #[.agg #[]] w fun e w'=>e=.returned (.agg #[])∧Below w.heap.size w w':=by
 go_enter func173,ntmps173;go_wp2;exact bodyPost_ret (Qao (a:=2) (t:=344) (by kernel_rfl) _ ⟨w.heap.size+1,0,none⟩ rfl _ _ (load0 _ _ _ (by kernel_rfl) (by kernel_rfl))) rfl ⟨rfl,(Qab w _).alloc (by first | (simp;done) | (simp;omega)) _⟩
def Qa8(w:World)(pb:Nat)(e an pr ac re cs fn off ln col:Value):Prop:=w.heap[pb]? =some (.cells #[e,an,pr,ac,re,cs,fn,off,ln,col] 128 (0,0))
theorem set97_c(t i:ByteArray){w:World}{pb:Nat}{e an pr ac re cs fn off ln col:Value}(h:Qa8 w pb e an pr ac re cs fn off ln col):Calls prog 97 #[.pointer (some ⟨pb,0,none⟩),.agg #[.string t,.string i]] w fun r w'=>r=.returned (.pointer (some ⟨pb,0,none⟩))∧Qa8 w' pb e an (.iface 169 (.agg #[.string t,.string i])) ac re cs fn off ln col∧Ext (·=pb) w w':=by
 unfold Qa8 at h ⊢;have hl:=Qad h;go_enter func97,ntmps97
 go_wp2_with fail
 refine(QeY t i _).mono ?_;rintro r w1⟨rfl,hb⟩;have hX:Ext (·=pb) w w1:=((Ext.refl _ w).alloc _).trans (.below hb);have h1:w1.heap[pb]? =_:=(hb.block pb (by simp;omega)).trans (Qaf h _);have c1:w1.cell? ⟨pb,2,none⟩=some pr:=Qaa h1 rfl;have f1:w1.frozen? ⟨pb,2,none⟩=false:=Qae h1 2;have H:=Hi (Xc h1 (hX.set (p:=⟨pb,2,none⟩) (.inl rfl) (.iface 169 (.agg #[.string t,.string i]))));clear h h1 hX hb;go_wp2
 go_ret;exact⟨rfl,Qac (o:=2) H.out.1 _,H.out.2⟩
theorem set101_c(t i:ByteArray){w:World}{pb:Nat}{e an pr ac re cs fn off ln col:Value}(h:Qa8 w pb e an pr ac re cs fn off ln col):Calls prog 101 #[.pointer (some ⟨pb,0,none⟩),.agg #[.string t,.string i]] w fun r w'=>r=.returned (.pointer (some ⟨pb,0,none⟩))∧Qa8 w' pb e an (.iface 171 (.agg #[.string t,.string i])) ac re cs fn off ln col∧Ext (·=pb) w w':=by
 unfold Qa8 at h ⊢;have hl:=Qad h;go_enter func101,ntmps101
 go_wp2_with fail
 refine(QeZ t i _).mono ?_;rintro r w1⟨rfl,hb⟩;have hX:Ext (·=pb) w w1:=((Ext.refl _ w).alloc _).trans (.below hb);have h1:w1.heap[pb]? =_:=(hb.block pb (by simp;omega)).trans (Qaf h _);have c1:w1.cell? ⟨pb,2,none⟩=some pr:=Qaa h1 rfl;have f1:w1.frozen? ⟨pb,2,none⟩=false:=Qae h1 2;have H:=Hi (Xc h1 (hX.set (p:=⟨pb,2,none⟩) (.inl rfl) (.iface 171 (.agg #[.string t,.string i]))));clear h h1 hX hb;go_wp2
 go_ret;exact⟨rfl,Qac (o:=2) H.out.1 _,H.out.2⟩
theorem set100_c(s:ByteArray){w:World}{pb:Nat}{e an pr ac re cs fn off ln col:Value}(h:Qa8 w pb e an pr ac re cs fn off ln col):Calls prog 100 #[.pointer (some ⟨pb,0,none⟩),.string s] w fun r w'=>r=.returned (.pointer (some ⟨pb,0,none⟩))∧Qa8 w' pb e an (.iface 176 (.agg #[.string s])) ac re cs fn off ln col∧Ext (·=pb) w w':=by
 unfold Qa8 at h ⊢;have hl:=Qad h;go_enter func100,ntmps100
 go_wp2_with fail
 refine(QgW s _).mono ?_;rintro r w1⟨rfl,hb⟩;have hX:Ext (·=pb) w w1:=.below hb;have h1:w1.heap[pb]? =_:=(hb.block pb hl).trans h;have c1:w1.cell? ⟨pb,2,none⟩=some pr:=Qaa h1 rfl;have f1:w1.frozen? ⟨pb,2,none⟩=false:=Qae h1 2;have H:=Hi (Xc h1 (hX.set (p:=⟨pb,2,none⟩) (.inl rfl) (.iface 176 (.agg #[.string s]))));clear h h1 hX hb;go_wp2;go_ret;exact⟨rfl,Qac (o:=2) H.out.1 _,H.out.2⟩
theorem set99_c(s t i:ByteArray){w:World}{pb:Nat}{e an pr ac re cs fn off ln col:Value}(h:Qa8 w pb e an pr ac re cs fn off ln col):Calls prog 99 #[.pointer (some ⟨pb,0,none⟩),.string s,.agg #[.string t,.string i]] w fun r w'=>r=.returned (.pointer (some ⟨pb,0,none⟩))∧Qa8 w' pb e an (.iface 178 (.agg #[.string s,.string t,.string i])) ac re cs fn off ln col∧Ext (·=pb) w w':=by
 unfold Qa8 at h ⊢;have hl:=Qad h;go_enter func99,ntmps99
 go_wp2_with fail
 refine(QgV s t i _).mono ?_;rintro r w1⟨rfl,hb⟩;have hX:Ext (·=pb) w w1:=((Ext.refl _ w).alloc _).trans (.below hb);have h1:w1.heap[pb]? =_:=(hb.block pb (by simp;omega)).trans (Qaf h _);have c1:w1.cell? ⟨pb,2,none⟩=some pr:=Qaa h1 rfl;have f1:w1.frozen? ⟨pb,2,none⟩=false:=Qae h1 2;have H:=Hi (Xc h1 (hX.set (p:=⟨pb,2,none⟩) (.inl rfl) (.iface 178 (.agg #[.string s,.string t,.string i]))));clear h h1 hX hb
 go_wp2;go_ret;exact⟨rfl,Qac (o:=2) H.out.1 _,H.out.2⟩
theorem set102_c(t i:ByteArray){w:World}{pb:Nat}{e an pr ac re cs fn off ln col:Value}(h:Qa8 w pb e an pr ac re cs fn off ln col):Calls prog 102 #[.pointer (some ⟨pb,0,none⟩),.agg #[.string t,.string i]] w fun r w'=>r=.returned (.pointer (some ⟨pb,0,none⟩))∧Qa8 w' pb e an pr (.iface 169 (.agg #[.string t,.string i])) re cs fn off ln col∧Ext (·=pb) w w':=by
 unfold Qa8 at h ⊢;have hl:=Qad h;go_enter func102,ntmps102
 go_wp2_with fail
 refine(QeY t i _).mono ?_;rintro r w1⟨rfl,hb⟩;have hX:Ext (·=pb) w w1:=((Ext.refl _ w).alloc _).trans (.below hb);have h1:w1.heap[pb]? =_:=(hb.block pb (by simp;omega)).trans (Qaf h _);have c1:w1.cell? ⟨pb,3,none⟩=some ac:=Qaa h1 rfl;have f1:w1.frozen? ⟨pb,3,none⟩=false:=Qae h1 3;have H:=Hi (Xc h1 (hX.set (p:=⟨pb,3,none⟩) (.inl rfl) (.iface 169 (.agg #[.string t,.string i]))));clear h h1 hX hb;go_wp2
 go_ret;exact⟨rfl,Qac (o:=3) H.out.1 _,H.out.2⟩
theorem set105_c(t i:ByteArray){w:World}{pb:Nat}{e an pr ac re cs fn off ln col:Value}(h:Qa8 w pb e an pr ac re cs fn off ln col):Calls prog 105 #[.pointer (some ⟨pb,0,none⟩),.agg #[.string t,.string i]] w fun r w'=>r=.returned (.pointer (some ⟨pb,0,none⟩))∧Qa8 w' pb e an pr (.iface 171 (.agg #[.string t,.string i])) re cs fn off ln col∧Ext (·=pb) w w':=by
 unfold Qa8 at h ⊢;have hl:=Qad h;go_enter func105,ntmps105
 go_wp2_with fail
 refine(QeZ t i _).mono ?_;rintro r w1⟨rfl,hb⟩;have hX:Ext (·=pb) w w1:=((Ext.refl _ w).alloc _).trans (.below hb);have h1:w1.heap[pb]? =_:=(hb.block pb (by simp;omega)).trans (Qaf h _);have c1:w1.cell? ⟨pb,3,none⟩=some ac:=Qaa h1 rfl;have f1:w1.frozen? ⟨pb,3,none⟩=false:=Qae h1 3;have H:=Hi (Xc h1 (hX.set (p:=⟨pb,3,none⟩) (.inl rfl) (.iface 171 (.agg #[.string t,.string i]))));clear h h1 hX hb;go_wp2
 go_ret;exact⟨rfl,Qac (o:=3) H.out.1 _,H.out.2⟩
theorem set104_c(p:Option Addr)(n c:Nat){w:World}{pb:Nat}{e an pr ac re cs fn off ln col:Value}(h:Qa8 w pb e an pr ac re cs fn off ln col):Calls prog 104 #[.pointer (some ⟨pb,0,none⟩),.slice p n c] w fun r w'=>r=.returned (.pointer (some ⟨pb,0,none⟩))∧Qa8 w' pb e an pr (.iface 174 (.agg #[.slice p n c])) re cs fn off ln col∧Ext (·=pb) w w':=by
 unfold Qa8 at h ⊢;have hl:=Qad h;go_enter func104,ntmps104
 go_wp2_with fail
 refine(sc148_c p n c _).mono ?_;rintro r w1⟨rfl,hb⟩;have hX:Ext (·=pb) w w1:=.below hb;have h1:w1.heap[pb]? =_:=(hb.block pb hl).trans h;have c1:w1.cell? ⟨pb,3,none⟩=some ac:=Qaa h1 rfl;have f1:w1.frozen? ⟨pb,3,none⟩=false:=Qae h1 3;have H:=Hi (Xc h1 (hX.set (p:=⟨pb,3,none⟩) (.inl rfl) (.iface 174 (.agg #[.slice p n c]))));clear h h1 hX hb;go_wp2;go_ret;exact⟨rfl,Qac (o:=3) H.out.1 _,H.out.2⟩
theorem set106_c(t i:ByteArray){w:World}{pb:Nat}{e an pr ac re cs fn off ln col:Value}(h:Qa8 w pb e an pr ac re cs fn off ln col):Calls prog 106 #[.pointer (some ⟨pb,0,none⟩),.agg #[.string t,.string i]] w fun r w'=>r=.returned (.pointer (some ⟨pb,0,none⟩))∧Qa8 w' pb e an pr ac (.iface 169 (.agg #[.string t,.string i])) cs fn off ln col∧Ext (·=pb) w w':=by
 unfold Qa8 at h ⊢;have hl:=Qad h;go_enter func106,ntmps106
 go_wp2_with fail
 refine(QeY t i _).mono ?_;rintro r w1⟨rfl,hb⟩;have hX:Ext (·=pb) w w1:=((Ext.refl _ w).alloc _).trans (.below hb);have h1:w1.heap[pb]? =_:=(hb.block pb (by simp;omega)).trans (Qaf h _);have c1:w1.cell? ⟨pb,4,none⟩=some re:=Qaa h1 rfl;have f1:w1.frozen? ⟨pb,4,none⟩=false:=Qae h1 4;have H:=Hi (Xc h1 (hX.set (p:=⟨pb,4,none⟩) (.inl rfl) (.iface 169 (.agg #[.string t,.string i]))));clear h h1 hX hb;go_wp2
 go_ret;exact⟨rfl,Qac (o:=4) H.out.1 _,H.out.2⟩
theorem set109_c(t i:ByteArray){w:World}{pb:Nat}{e an pr ac re cs fn off ln col:Value}(h:Qa8 w pb e an pr ac re cs fn off ln col):Calls prog 109 #[.pointer (some ⟨pb,0,none⟩),.agg #[.string t,.string i]] w fun r w'=>r=.returned (.pointer (some ⟨pb,0,none⟩))∧Qa8 w' pb e an pr ac (.iface 171 (.agg #[.string t,.string i])) cs fn off ln col∧Ext (·=pb) w w':=by
 unfold Qa8 at h ⊢;have hl:=Qad h;go_enter func109,ntmps109
 go_wp2_with fail
 refine(QeZ t i _).mono ?_;rintro r w1⟨rfl,hb⟩;have hX:Ext (·=pb) w w1:=((Ext.refl _ w).alloc _).trans (.below hb);have h1:w1.heap[pb]? =_:=(hb.block pb (by simp;omega)).trans (Qaf h _);have c1:w1.cell? ⟨pb,4,none⟩=some re:=Qaa h1 rfl;have f1:w1.frozen? ⟨pb,4,none⟩=false:=Qae h1 4;have H:=Hi (Xc h1 (hX.set (p:=⟨pb,4,none⟩) (.inl rfl) (.iface 171 (.agg #[.string t,.string i]))));clear h h1 hX hb;go_wp2
 go_ret;exact⟨rfl,Qac (o:=4) H.out.1 _,H.out.2⟩
theorem set108_c(s:ByteArray){w:World}{pb:Nat}{e an pr ac re cs fn off ln col:Value}(h:Qa8 w pb e an pr ac re cs fn off ln col):Calls prog 108 #[.pointer (some ⟨pb,0,none⟩),.string s] w fun r w'=>r=.returned (.pointer (some ⟨pb,0,none⟩))∧Qa8 w' pb e an pr ac (.iface 176 (.agg #[.string s])) cs fn off ln col∧Ext (·=pb) w w':=by
 unfold Qa8 at h ⊢;have hl:=Qad h;go_enter func108,ntmps108
 go_wp2_with fail
 refine(QgW s _).mono ?_;rintro r w1⟨rfl,hb⟩;have hX:Ext (·=pb) w w1:=.below hb;have h1:w1.heap[pb]? =_:=(hb.block pb hl).trans h;have c1:w1.cell? ⟨pb,4,none⟩=some re:=Qaa h1 rfl;have f1:w1.frozen? ⟨pb,4,none⟩=false:=Qae h1 4;have H:=Hi (Xc h1 (hX.set (p:=⟨pb,4,none⟩) (.inl rfl) (.iface 176 (.agg #[.string s]))));clear h h1 hX hb;go_wp2;go_ret;exact⟨rfl,Qac (o:=4) H.out.1 _,H.out.2⟩
theorem set107_c(s t i:ByteArray){w:World}{pb:Nat}{e an pr ac re cs fn off ln col:Value}(h:Qa8 w pb e an pr ac re cs fn off ln col):Calls prog 107 #[.pointer (some ⟨pb,0,none⟩),.string s,.agg #[.string t,.string i]] w fun r w'=>r=.returned (.pointer (some ⟨pb,0,none⟩))∧Qa8 w' pb e an pr ac (.iface 178 (.agg #[.string s,.string t,.string i])) cs fn off ln col∧Ext (·=pb) w w':=by
 unfold Qa8 at h ⊢;have hl:=Qad h;go_enter func107,ntmps107
 go_wp2_with fail
 refine(QgV s t i _).mono ?_;rintro r w1⟨rfl,hb⟩;have hX:Ext (·=pb) w w1:=((Ext.refl _ w).alloc _).trans (.below hb);have h1:w1.heap[pb]? =_:=(hb.block pb (by simp;omega)).trans (Qaf h _);have c1:w1.cell? ⟨pb,4,none⟩=some re:=Qaa h1 rfl;have f1:w1.frozen? ⟨pb,4,none⟩=false:=Qae h1 4;have H:=Hi (Xc h1 (hX.set (p:=⟨pb,4,none⟩) (.inl rfl) (.iface 178 (.agg #[.string s,.string t,.string i]))));clear h h1 hX hb
 go_wp2;go_ret;exact⟨rfl,Qac (o:=4) H.out.1 _,H.out.2⟩
inductive Scp where
 | all
 | eq (u:ByteArray×ByteArray)
 | within (u:ByteArray×ByteArray)
 | inSet (l:List (ByteArray×ByteArray))
 | is (s:ByteArray)
 | isIn (s:ByteArray)(u:ByteArray×ByteArray)
def ScIs(w:World)(lo:Nat)(old v:Value):Scp→Prop
 | .all=>v=old
 | .eq u=>v=.iface 169 (.agg #[.string u.1,.string u.2])
 | .within u=>v=.iface 171 (.agg #[.string u.1,.string u.2])
 | .inSet l=>∃p c,v=.iface 174 (.agg #[.slice p l.length c])∧Row2At w lo 167 p l.length (fun i=>.string (l.getD i (⟨#[]⟩,⟨#[]⟩)).1) (fun i=>.string (l.getD i (⟨#[]⟩,⟨#[]⟩)).2)
 | .is s=>v=.iface 176 (.agg #[.string s])
 | .isIn s u=>v=.iface 178 (.agg #[.string s,.string u.1,.string u.2])
def Qat(L:Lex)(wd:List UInt8)(ts:Toks):Option (Scp×Toks):=match exact wd ts with
 | none=>none
 | some us=>if(tx us==[61,61])=true then(match entity L (adv us)with
   | none=>none
   | some (u,vs)=>some (.eq u,vs))
  else if(tx us==[105,115])=true then(match path (adv us)with
   | none=>none
   | some (s,vs)=>if(tx vs==[105,110])=true then(match entity L (adv vs)with
     | none=>none
     | some (u,zs)=>some (.isIn s u,zs))else some (.is s,vs))
  else if(tx us==[105,110])=true then(match entity L (adv us)with
   | none=>none
   | some (u,vs)=>some (.within u,vs))
  else some (.all,us)
def ScP(bp base pb:Nat)(w:World)(P:World→Value→Prop)(old:Value)(r:Option (Scp×Toks))(e:Ending)(w':World):Prop :=
 Ext (fun d=>d=bp∨d=pb) w w'∧match r with
 | none=>∃T,∃v:EVal base w' T,e=.returned (.iface T v.1)
 | some (s,us)=>∃v,e=.returned .nilIface∧PS w' bp base us∧P w' v∧ScIs w' base old v s
theorem Qbb{bp base pb:Nat}{w w':World}{P:World→Value→Prop}{old:Value}{r:Option (Scp×Toks)}{T:TypeId}{w9:World}{v:EVal base w9 T}(h:r=none)(hX:Ext (·=bp) w w')(hk:∀d,OkB w9 d→OkB w' d:=by intro _ h;repeat (first | exact h | apply Qiq | apply Qip)):ScP bp base pb w P old r (.returned (.iface T v.1)) w':=by subst h;exact⟨hX.mono (fun d h=>.inl h),_,v.to hk,rfl⟩
theorem Qbf{bp base pb:Nat}{w w1 w':World}{P:World→Value→Prop}{old v:Value}{r:Option (Scp×Toks)}{s:Scp}{us:Toks}(h:r=some (s,us))(hX:Ext (·=bp) w w1)(hX2:Ext (·=pb) w1 w')(hp:PS w1 bp base us)(hb:base≤pb)(hP:P w' v)(hs:ScIs w' base old v s):ScP bp base pb w P old r (.returned .nilIface) w':=by
 subst h;exact⟨(hX.mono (fun d h=>.inl h)).trans (hX2.mono (fun d h=>.inr h)),v,rfl,hp.ext hX2 (fun d k=>by subst k;exact hb),hP,hs⟩
theorem Qfb{L:Lex}(hL:LexC L){bp base pb:Nat}{e an pr ac re cs fn off ln col:Value}(w:World)(ts:Toks)(hp:PS w bp base ts)(hwf:Wf ts)(hbs:base≤w.heap.size)(hpb:base≤pb)(hL0:Qa8 w pb e an pr ac re cs fn off ln col) :
  Calls prog 71 #[.pointer (some ⟨bp,0,none⟩),.pointer (some ⟨pb,0,none⟩)] w (ScP bp base pb w (fun w' v=>Qa8 w' pb e an v ac re cs fn off ln col) pr (Qat L [112,114,105,110,99,105,112,97,108] ts)):=by
 have hbb:=hp.hbp;have h15:=hp.h15;have hlen:=hp.len;have HL:=Hi hL;clear hL;unfold Qa8 at hL0;have hL_w:=hL0;clear hL0;have ltP:=Qad hL_w;obtain⟨u,q,rfl⟩:∃u q,ts=u::q:=by cases ts with | nil=>exact absurd rfl hp.ne | cons u q=>exact⟨u,q,rfl⟩
 have hwa:=hwf.adv;go_enter func71,ntmps71;cases ht:(u.tx.toList==[112,114,105,110,99,105,112,97,108])with
 | false =>
  go_wp2_with fail
  refine(Qa9 hp ht).mono ?_;rintro e w1⟨T9,v9,rfl,hp1,hF⟩;have hL1:=hF.heap (by omega) hL_w;have hs1:=hF.size;have hX1:Ext (·=bp) w w1:=hF;clear hL_w hp;clear hF;have HR:=Hi (show Qat L [112,114,105,110,99,105,112,97,108] (u::q)=none by unfold Qat;simp only[exact,tx,Xf,if_false,if_true,ht]);go_wp2;go_ret;rw[HR.out];exact Qbb rfl hX1
 | true =>
  go_wp2_with fail
  refine(Qa0 hp ht).mono ?_;rintro e w1⟨rfl,hp1,hF⟩;have hL1:=hF.heap (by omega) hL_w;have hs1:=hF.size;have hX1:Ext (·=bp) w w1:=hF;clear hL_w hp;clear hF;obtain⟨u2,q2,ha2⟩:∃a b,adv (u::q)=a::b:=by
   cases h:adv (u::q)with
   | nil=>rw[h]at hwa;exact absurd rfl hwa.ne
   | cons a b=>exact⟨a,b,rfl⟩
  rw[ha2]at hwa hp1;have HA2:=Hi ha2;clear ha2;have hwb:=hwa.adv
  go_wp2_with fail
  refine(Qa7 hp1).mono ?_;rintro e w2⟨rfl,hF⟩;have hL2:=Bk hF hL1;have hs2:=hF.size;have hX_w2:=hX1.trans (.below hF);have hp2:=hp1.below hF;clear hL1 hX1 hp1;clear hF;cases hu:(u2.tx.toList==[61,61])with
  | true =>
   go_wp2_with fail
   refine(Qaz hp2).mono ?_;rintro e w3⟨rfl,hp3,hF⟩;have hL3:=hF.heap (by omega) hL2;have hs3:=hF.size;have hX3:=hX_w2.trans hF;clear hL2 hX_w2 hp2;clear hF
   go_wp2_with fail
   refine(Qb2 HL.out _ (adv (u2::q2)) hp3 hwb (by omega)).mono ?_;rintro e w4⟨hF,hr⟩;have hL4:=hF.heap (by omega) hL3;have hs4:=hF.size;have hX4:=hX3.trans hF;clear hL3 hX3;clear hF;cases hm:entity L (adv (u2::q2))with
   | none =>
    rw[hm]at hr;obtain⟨a9,b9,T9,v9,rfl⟩:=hr;have HR:=Hi (show Qat L [112,114,105,110,99,105,112,97,108] (u::q)=none by unfold Qat;simp only[exact,tx,Xf,if_false,if_true,ht,HA2.out,hu,hm]);go_wp2;go_ret;rw[HR.out];exact Qbb rfl (hX4.alloc _)
   | some p9 =>
    obtain⟨⟨t9,i9⟩,us⟩:=p9;rw[hm]at hr;obtain⟨rfl,hp9⟩:=hr;have hbx:=Qab w4 (.cells #[.string t9,.string i9] 167)
    go_wp2_with fail
    refine(set97_c t9 i9 (h:=(Qaf hL4 (.cells #[.string t9,.string i9] 167)))).mono ?_;rintro r w5⟨rfl,hPN,hXN⟩;have HR:=Hi (show Qat L [112,114,105,110,99,105,112,97,108] (u::q)=some (.eq (t9,i9),us)by unfold Qat;simp only[exact,tx,Xf,if_false,if_true,ht,HA2.out,hu,hm]);have HP:=Hi hPN;clear hPN hL4 hm;go_wp2;go_ret;rw[HR.out];exact Qbf rfl (hX4.trans (.below hbx)) hXN (hp9.below hbx) hpb HP.out rfl
  | false =>
   have h_q:=hu;clear hu;cases hu:(u2.tx.toList==[105,115])with
   | true =>
    go_wp2_with fail
    refine(Qaz hp2).mono ?_;rintro e w3⟨rfl,hp3,hF⟩;have hL3:=hF.heap (by omega) hL2;have hs3:=hF.size;have hX3:=hX_w2.trans hF;clear hL2 hX_w2 hp2;clear hF
    go_wp2_with fail
    refine(Qg7 _ (adv (u2::q2)) hp3 hwb (by omega)).mono ?_;rintro e w4⟨hF,hr⟩;have hL4:=hF.heap (by omega) hL3;have hs4:=hF.size;have hX4:=hX3.trans hF;clear hL3 hX3;clear hF;cases hm0:path (adv (u2::q2))with
    | none =>
     rw[hm0]at hr;obtain⟨s9,T9,v9,rfl⟩:=hr;have HR:=Hi (show Qat L [112,114,105,110,99,105,112,97,108] (u::q)=none by unfold Qat;simp only[exact,tx,Xf,if_false,if_true,ht,HA2.out,h_q,hu,hm0]);go_wp2;go_ret;rw[HR.out];exact Qbb rfl hX4
    | some p0 =>
     obtain⟨s,us0⟩:=p0;rw[hm0]at hr;obtain⟨rfl,hp0,hz⟩:=hr;have hwu:=((QcR _ _ _ hwb hm0).1.wf hwb);have HM0:=Hi hm0;clear hm0;obtain⟨u3,q3,rfl⟩:∃u q,us0=u::q:=by cases us0 with | nil=>exact absurd rfl hp0.ne | cons u q=>exact⟨u,q,rfl⟩
     go_wp2_with fail
     refine(Qa7 hp0).mono ?_;rintro e w5⟨rfl,hF⟩;have hL5:=Bk hF hL4;have hs5:=hF.size;have hX5:=hX4.trans (.below hF);have hp5:=hp0.below hF;clear hL4 hX4 hp0;clear hF;cases hi:(u3.tx.toList==[105,110])with
     | false =>
      have HR:=Hi (show Qat L [112,114,105,110,99,105,112,97,108] (u::q)=some (.is s,u3::q3)by unfold Qat;simp only[exact,tx,Xf,if_false,if_true,ht,HA2.out,h_q,hu,HM0.out,hi])
      go_wp2_with fail
      refine(set100_c s hL5).mono ?_;rintro r w6⟨rfl,hPN,hXN⟩;have HP:=Hi hPN;clear hPN hL5;go_wp2;go_ret;rw[HR.out];exact Qbf rfl hX5 hXN hp5 hpb HP.out rfl
     | true =>
      go_wp2_with fail
      refine(Qaz hp5).mono ?_;rintro e w6⟨rfl,hp6,hF⟩;have hL6:=hF.heap (by omega) hL5;have hs6:=hF.size;have hX6:=hX5.trans hF;clear hL5 hX5 hp5;clear hF
      go_wp2_with fail
      refine(Qb2 HL.out _ (adv (u3::q3)) hp6 hwu.adv (by omega)).mono ?_;rintro e w7⟨hF,hr⟩;have hL7:=hF.heap (by omega) hL6;have hs7:=hF.size;have hX7:=hX6.trans hF;clear hL6 hX6;clear hF;cases hm:entity L (adv (u3::q3))with
      | none =>
       rw[hm]at hr;obtain⟨a9,b9,T9,v9,rfl⟩:=hr;have HR:=Hi (show Qat L [112,114,105,110,99,105,112,97,108] (u::q)=none by unfold Qat;simp only[exact,tx,Xf,if_false,if_true,ht,HA2.out,h_q,hu,HM0.out,hi,hm]);go_wp2;go_ret;rw[HR.out];exact Qbb rfl (hX7.alloc _)
      | some p9 =>
       obtain⟨⟨t9,i9⟩,us⟩:=p9;rw[hm]at hr;obtain⟨rfl,hp9⟩:=hr;have hbx:=Qab w7 (.cells #[.string t9,.string i9] 167)
       go_wp2_with fail
       refine(set99_c s t9 i9 (h:=(Qaf hL7 (.cells #[.string t9,.string i9] 167)))).mono ?_;rintro r w8⟨rfl,hPN,hXN⟩;have HR:=Hi (show Qat L [112,114,105,110,99,105,112,97,108] (u::q)=some (.isIn s (t9,i9),us)by unfold Qat;simp only[exact,tx,Xf,if_false,if_true,ht,HA2.out,h_q,hu,HM0.out,hi,hm]);have HP:=Hi hPN;clear hPN hL7 hm;go_wp2;go_ret;rw[HR.out];exact Qbf rfl (hX7.trans (.below hbx)) hXN (hp9.below hbx) hpb HP.out rfl
   | false =>
    have h_s:=hu;clear hu;cases hu:(u2.tx.toList==[105,110])with
    | true =>
     go_wp2_with fail
     refine(Qaz hp2).mono ?_;rintro e w3⟨rfl,hp3,hF⟩;have hL3:=hF.heap (by omega) hL2;have hs3:=hF.size;have hX3:=hX_w2.trans hF;clear hL2 hX_w2 hp2;clear hF
     go_wp2_with fail
     refine(Qb2 HL.out _ (adv (u2::q2)) hp3 hwb (by omega)).mono ?_;rintro e w4⟨hF,hr⟩;have hL4:=hF.heap (by omega) hL3;have hs4:=hF.size;have hX4:=hX3.trans hF;clear hL3 hX3;clear hF;cases hm:entity L (adv (u2::q2))with
     | none =>
      rw[hm]at hr;obtain⟨a9,b9,T9,v9,rfl⟩:=hr;have HR:=Hi (show Qat L [112,114,105,110,99,105,112,97,108] (u::q)=none by unfold Qat;simp only[exact,tx,Xf,if_false,if_true,ht,HA2.out,h_q,h_s,hu,hm]);go_wp2;go_ret;rw[HR.out];exact Qbb rfl (hX4.alloc _)
     | some p9 =>
      obtain⟨⟨t9,i9⟩,us⟩:=p9;rw[hm]at hr;obtain⟨rfl,hp9⟩:=hr;have hbx:=Qab w4 (.cells #[.string t9,.string i9] 167)
      go_wp2_with fail
      refine(set101_c t9 i9 (h:=(Qaf hL4 (.cells #[.string t9,.string i9] 167)))).mono ?_;rintro r w5⟨rfl,hPN,hXN⟩;have HR:=Hi (show Qat L [112,114,105,110,99,105,112,97,108] (u::q)=some (.within (t9,i9),us)by unfold Qat;simp only[exact,tx,Xf,if_false,if_true,ht,HA2.out,h_q,h_s,hu,hm]);have HP:=Hi hPN;clear hPN hL4 hm;go_wp2;go_ret;rw[HR.out];exact Qbf rfl (hX4.trans (.below hbx)) hXN (hp9.below hbx) hpb HP.out rfl
    | false =>
     have HR:=Hi (show Qat L [112,114,105,110,99,105,112,97,108] (u::q)=some (.all,u2::q2)by unfold Qat;simp only[exact,tx,Xf,if_false,if_true,ht,HA2.out,h_q,h_s,hu]);have HP:=Hi hL2;clear hL2;go_wp2;go_ret;rw[HR.out];exact Qbf rfl hX_w2 (.refl _ _) hp2 hpb HP.out rfl
theorem Qgc{L:Lex}(hL:LexC L){bp base pb:Nat}{e an pr ac re cs fn off ln col:Value}(w:World)(ts:Toks)(hp:PS w bp base ts)(hwf:Wf ts)(hbs:base≤w.heap.size)(hpb:base≤pb)(hL0:Qa8 w pb e an pr ac re cs fn off ln col) :
  Calls prog 73 #[.pointer (some ⟨bp,0,none⟩),.pointer (some ⟨pb,0,none⟩)] w (ScP bp base pb w (fun w' v=>Qa8 w' pb e an pr ac v cs fn off ln col) re (Qat L [114,101,115,111,117,114,99,101] ts)):=by
 have hbb:=hp.hbp;have h15:=hp.h15;have hlen:=hp.len;have HL:=Hi hL;clear hL;unfold Qa8 at hL0;have hL_w:=hL0;clear hL0;have ltP:=Qad hL_w;obtain⟨u,q,rfl⟩:∃u q,ts=u::q:=by cases ts with | nil=>exact absurd rfl hp.ne | cons u q=>exact⟨u,q,rfl⟩
 have hwa:=hwf.adv;go_enter func73,ntmps73;cases ht:(u.tx.toList==[114,101,115,111,117,114,99,101])with
 | false =>
  go_wp2_with fail
  refine(Qa9 hp ht).mono ?_;rintro e w1⟨T9,v9,rfl,hp1,hF⟩;have hL1:=hF.heap (by omega) hL_w;have hs1:=hF.size;have hX1:Ext (·=bp) w w1:=hF;clear hL_w hp;clear hF;have HR:=Hi (show Qat L [114,101,115,111,117,114,99,101] (u::q)=none by unfold Qat;simp only[exact,tx,Xf,if_false,if_true,ht]);go_wp2;go_ret;rw[HR.out];exact Qbb rfl hX1
 | true =>
  go_wp2_with fail
  refine(Qa0 hp ht).mono ?_;rintro e w1⟨rfl,hp1,hF⟩;have hL1:=hF.heap (by omega) hL_w;have hs1:=hF.size;have hX1:Ext (·=bp) w w1:=hF;clear hL_w hp;clear hF;obtain⟨u2,q2,ha2⟩:∃a b,adv (u::q)=a::b:=by
   cases h:adv (u::q)with
   | nil=>rw[h]at hwa;exact absurd rfl hwa.ne
   | cons a b=>exact⟨a,b,rfl⟩
  rw[ha2]at hwa hp1;have HA2:=Hi ha2;clear ha2;have hwb:=hwa.adv
  go_wp2_with fail
  refine(Qa7 hp1).mono ?_;rintro e w2⟨rfl,hF⟩;have hL2:=Bk hF hL1;have hs2:=hF.size;have hX_w2:=hX1.trans (.below hF);have hp2:=hp1.below hF;clear hL1 hX1 hp1;clear hF;cases hu:(u2.tx.toList==[61,61])with
  | true =>
   go_wp2_with fail
   refine(Qaz hp2).mono ?_;rintro e w3⟨rfl,hp3,hF⟩;have hL3:=hF.heap (by omega) hL2;have hs3:=hF.size;have hX3:=hX_w2.trans hF;clear hL2 hX_w2 hp2;clear hF
   go_wp2_with fail
   refine(Qb2 HL.out _ (adv (u2::q2)) hp3 hwb (by omega)).mono ?_;rintro e w4⟨hF,hr⟩;have hL4:=hF.heap (by omega) hL3;have hs4:=hF.size;have hX4:=hX3.trans hF;clear hL3 hX3;clear hF;cases hm:entity L (adv (u2::q2))with
   | none =>
    rw[hm]at hr;obtain⟨a9,b9,T9,v9,rfl⟩:=hr;have HR:=Hi (show Qat L [114,101,115,111,117,114,99,101] (u::q)=none by unfold Qat;simp only[exact,tx,Xf,if_false,if_true,ht,HA2.out,hu,hm]);go_wp2;go_ret;rw[HR.out];exact Qbb rfl (hX4.alloc _)
   | some p9 =>
    obtain⟨⟨t9,i9⟩,us⟩:=p9;rw[hm]at hr;obtain⟨rfl,hp9⟩:=hr;have hbx:=Qab w4 (.cells #[.string t9,.string i9] 167)
    go_wp2_with fail
    refine(set106_c t9 i9 (h:=(Qaf hL4 (.cells #[.string t9,.string i9] 167)))).mono ?_;rintro r w5⟨rfl,hPN,hXN⟩;have HR:=Hi (show Qat L [114,101,115,111,117,114,99,101] (u::q)=some (.eq (t9,i9),us)by unfold Qat;simp only[exact,tx,Xf,if_false,if_true,ht,HA2.out,hu,hm]);have HP:=Hi hPN;clear hPN hL4 hm;go_wp2;go_ret;rw[HR.out];exact Qbf rfl (hX4.trans (.below hbx)) hXN (hp9.below hbx) hpb HP.out rfl
  | false =>
   have h_q:=hu;clear hu;cases hu:(u2.tx.toList==[105,115])with
   | true =>
    go_wp2_with fail
    refine(Qaz hp2).mono ?_;rintro e w3⟨rfl,hp3,hF⟩;have hL3:=hF.heap (by omega) hL2;have hs3:=hF.size;have hX3:=hX_w2.trans hF;clear hL2 hX_w2 hp2;clear hF
    go_wp2_with fail
    refine(Qg7 _ (adv (u2::q2)) hp3 hwb (by omega)).mono ?_;rintro e w4⟨hF,hr⟩;have hL4:=hF.heap (by omega) hL3;have hs4:=hF.size;have hX4:=hX3.trans hF;clear hL3 hX3;clear hF;cases hm0:path (adv (u2::q2))with
    | none =>
     rw[hm0]at hr;obtain⟨s9,T9,v9,rfl⟩:=hr;have HR:=Hi (show Qat L [114,101,115,111,117,114,99,101] (u::q)=none by unfold Qat;simp only[exact,tx,Xf,if_false,if_true,ht,HA2.out,h_q,hu,hm0]);go_wp2;go_ret;rw[HR.out];exact Qbb rfl hX4
    | some p0 =>
     obtain⟨s,us0⟩:=p0;rw[hm0]at hr;obtain⟨rfl,hp0,hz⟩:=hr;have hwu:=((QcR _ _ _ hwb hm0).1.wf hwb);have HM0:=Hi hm0;clear hm0;obtain⟨u3,q3,rfl⟩:∃u q,us0=u::q:=by cases us0 with | nil=>exact absurd rfl hp0.ne | cons u q=>exact⟨u,q,rfl⟩
     go_wp2_with fail
     refine(Qa7 hp0).mono ?_;rintro e w5⟨rfl,hF⟩;have hL5:=Bk hF hL4;have hs5:=hF.size;have hX5:=hX4.trans (.below hF);have hp5:=hp0.below hF;clear hL4 hX4 hp0;clear hF;cases hi:(u3.tx.toList==[105,110])with
     | false =>
      have HR:=Hi (show Qat L [114,101,115,111,117,114,99,101] (u::q)=some (.is s,u3::q3)by unfold Qat;simp only[exact,tx,Xf,if_false,if_true,ht,HA2.out,h_q,hu,HM0.out,hi])
      go_wp2_with fail
      refine(set108_c s hL5).mono ?_;rintro r w6⟨rfl,hPN,hXN⟩;have HP:=Hi hPN;clear hPN hL5;go_wp2;go_ret;rw[HR.out];exact Qbf rfl hX5 hXN hp5 hpb HP.out rfl
     | true =>
      go_wp2_with fail
      refine(Qaz hp5).mono ?_;rintro e w6⟨rfl,hp6,hF⟩;have hL6:=hF.heap (by omega) hL5;have hs6:=hF.size;have hX6:=hX5.trans hF;clear hL5 hX5 hp5;clear hF
      go_wp2_with fail
      refine(Qb2 HL.out _ (adv (u3::q3)) hp6 hwu.adv (by omega)).mono ?_;rintro e w7⟨hF,hr⟩;have hL7:=hF.heap (by omega) hL6;have hs7:=hF.size;have hX7:=hX6.trans hF;clear hL6 hX6;clear hF;cases hm:entity L (adv (u3::q3))with
      | none =>
       rw[hm]at hr;obtain⟨a9,b9,T9,v9,rfl⟩:=hr;have HR:=Hi (show Qat L [114,101,115,111,117,114,99,101] (u::q)=none by unfold Qat;simp only[exact,tx,Xf,if_false,if_true,ht,HA2.out,h_q,hu,HM0.out,hi,hm]);go_wp2;go_ret;rw[HR.out];exact Qbb rfl (hX7.alloc _)
      | some p9 =>
       obtain⟨⟨t9,i9⟩,us⟩:=p9;rw[hm]at hr;obtain⟨rfl,hp9⟩:=hr;have hbx:=Qab w7 (.cells #[.string t9,.string i9] 167)
       go_wp2_with fail
       refine(set107_c s t9 i9 (h:=(Qaf hL7 (.cells #[.string t9,.string i9] 167)))).mono ?_;rintro r w8⟨rfl,hPN,hXN⟩;have HR:=Hi (show Qat L [114,101,115,111,117,114,99,101] (u::q)=some (.isIn s (t9,i9),us)by unfold Qat;simp only[exact,tx,Xf,if_false,if_true,ht,HA2.out,h_q,hu,HM0.out,hi,hm]);have HP:=Hi hPN;clear hPN hL7 hm;go_wp2;go_ret;rw[HR.out];exact Qbf rfl (hX7.trans (.below hbx)) hXN (hp9.below hbx) hpb HP.out rfl
   | false =>
    have h_s:=hu;clear hu;cases hu:(u2.tx.toList==[105,110])with
    | true =>
     go_wp2_with fail
     refine(Qaz hp2).mono ?_;rintro e w3⟨rfl,hp3,hF⟩;have hL3:=hF.heap (by omega) hL2;have hs3:=hF.size;have hX3:=hX_w2.trans hF;clear hL2 hX_w2 hp2;clear hF
     go_wp2_with fail
     refine(Qb2 HL.out _ (adv (u2::q2)) hp3 hwb (by omega)).mono ?_;rintro e w4⟨hF,hr⟩;have hL4:=hF.heap (by omega) hL3;have hs4:=hF.size;have hX4:=hX3.trans hF;clear hL3 hX3;clear hF;cases hm:entity L (adv (u2::q2))with
     | none =>
      rw[hm]at hr;obtain⟨a9,b9,T9,v9,rfl⟩:=hr;have HR:=Hi (show Qat L [114,101,115,111,117,114,99,101] (u::q)=none by unfold Qat;simp only[exact,tx,Xf,if_false,if_true,ht,HA2.out,h_q,h_s,hu,hm]);go_wp2;go_ret;rw[HR.out];exact Qbb rfl (hX4.alloc _)
     | some p9 =>
      obtain⟨⟨t9,i9⟩,us⟩:=p9;rw[hm]at hr;obtain⟨rfl,hp9⟩:=hr;have hbx:=Qab w4 (.cells #[.string t9,.string i9] 167)
      go_wp2_with fail
      refine(set109_c t9 i9 (h:=(Qaf hL4 (.cells #[.string t9,.string i9] 167)))).mono ?_;rintro r w5⟨rfl,hPN,hXN⟩;have HR:=Hi (show Qat L [114,101,115,111,117,114,99,101] (u::q)=some (.within (t9,i9),us)by unfold Qat;simp only[exact,tx,Xf,if_false,if_true,ht,HA2.out,h_q,h_s,hu,hm]);have HP:=Hi hPN;clear hPN hL4 hm;go_wp2;go_ret;rw[HR.out];exact Qbf rfl (hX4.trans (.below hbx)) hXN (hp9.below hbx) hpb HP.out rfl
    | false =>
     have HR:=Hi (show Qat L [114,101,115,111,117,114,99,101] (u::q)=some (.all,u2::q2)by unfold Qat;simp only[exact,tx,Xf,if_false,if_true,ht,HA2.out,h_q,h_s,hu]);have HP:=Hi hL2;clear hL2;go_wp2;go_ret;rw[HR.out];exact Qbf rfl hX_w2 (.refl _ _) hp2 hpb HP.out rfl
def Qcg(L:Lex):Nat→List (ByteArray×ByteArray)→Toks→Option (List (ByteArray×ByteArray)×Toks)
 | 0,_,_=>none
 | f+1,acc,ts=>if(tx ts==[93])=true then some (acc,ts)else match entity L ts with
  | none=>none
  | some (x,us)=>if(tx us==[44])=true then Qcg L f (acc++[x]) (adv us)else if(tx us==[93])=true then some (acc++[x],us)else none
def uids(L:Lex)(ts:Toks):Option (List (ByteArray×ByteArray)×Toks):=Qcg L (ts.length+1) [] ts
def Qav:List (ByteArray×ByteArray)→List Value
 | []=>[]
 | u::l=>.string u.1::.string u.2::Qav l
theorem Qbm:∀(l:List (ByteArray×ByteArray))(t i:ByteArray),Qav (l++[(t,i)])=Qav l++[.string t,.string i]
 | [],t,i=>rfl
 | u::l,t,i=>by rw[List.cons_append,Qav,Qbm l t i];rfl
theorem Qcd:∀(l:List (ByteArray×ByteArray))(i:Nat),i<l.length→(Qav l)[i*2]? =some (.string (l.getD i (⟨#[]⟩,⟨#[]⟩)).1)∧(Qav l)[i*2+1]? =some (.string (l.getD i (⟨#[]⟩,⟨#[]⟩)).2)
 | [],i,h=>absurd h (Nat.not_lt_zero _)
 | u::l,0,h=>⟨rfl,rfl⟩
 | u::l,i+1,h=>by
  have:=Qcd l i (by simpa using h);simp only[Qav,show(i+1)*2=i*2+1+1 by omega,List.getElem?_cons_succ,List.getD_cons_succ];exact this
theorem sl172:SlT prog 172 167 (.agg #[.string ⟨#[]⟩,.string ⟨#[]⟩]) 2 32:=⟨by kernel_rfl,⟨Tryz.t167,by kernel_rfl,by kernel_rfl,by kernel_rfl,by kernel_rfl⟩,rfl,by decide⟩
def UidsP(bp base:Nat)(w:World)(r:Option (List (ByteArray×ByteArray)×Toks))(e:Ending)(w':World):Prop :=
 Ext (·=bp) w w'∧match r with
 | none=>∃s T,∃v:EVal base w' T,e=.returned (.tuple #[s,.iface T v.1])
 | some (l,us)=>∃s,e=.returned (.tuple #[s,.nilIface])∧PS w' bp base us∧w'.ownsRow w.heap.size 167 2 s l.length (Qav l)∧l.length≤1000000
def UlRel(m:Nat→List (ByteArray×ByteArray)→Toks→Option (List (ByteArray×ByteArray)×Toks))(bp base N B:Nat)(w:World)(Rm:Option (List (ByteArray×ByteArray)×Toks))(s:Value)(wr:World):Prop :=
 ∃g acc vs,m g acc vs=Rm∧vs.length<g∧Wf vs∧vs.length≤N∧acc.length+vs.length≤N∧PS wr bp base vs∧wr.ownsRow B 167 2 s acc.length (Qav acc)∧Ext (·=bp) w wr
theorem uids_w{L:Lex}(hL:LexC L){bp base:Nat}(w:World)(ts:Toks)(hp:PS w bp base ts)(hwf:Wf ts)(hbs:base≤w.heap.size) :
  Calls prog 103 #[.pointer (some ⟨bp,0,none⟩)] w (UidsP bp base w (uids L ts)):=by
 have hbb:=hp.hbp;have h15:=hp.h15;have hlen:=hp.len;have HL:=Hi hL;clear hL;have HF:=Hi (show uids L ts=Qcg L (ts.length+1) [] ts from rfl);go_enter func103,ntmps103
 go_upto_region 2 with(fail)
 go_loopw [4] (fun s wr=>UlRel (Qcg L) bp base ts.length (w.heap.size) w (Qcg L (ts.length+1) [] ts) s wr) (fun _ wr=>left wr bp)
 case atStart=>exact⟨ts.length+1,[],ts,rfl,by omega,hwf,by omega,by simp,hp,⟨rfl,.inl ⟨rfl,rfl⟩⟩,.refl _ _⟩
 case round =>
  clear hp;obtain⟨wo,rfl⟩:∃wo:World,wo=wr:=⟨_,rfl⟩
  obtain⟨g,acc,vs,hg,hgl,hvw,hvN,haN,hp_wo,hO_wo,hX_wo⟩:=hrel;have HG:=Hi hg;clear hg;cases g with
  | zero=>omega
  | succ g =>
  obtain⟨u,q,rfl⟩:∃u q,vs=u::q:=by cases vs with | nil=>exact absurd rfl hp_wo.ne | cons u q=>exact⟨u,q,rfl⟩
  have HLF:=Hi hp_wo.left;have hsz_wo:=hX_wo.size;have hul:0<(u::q).length:=by simp
  go_wp2_with fail
  refine(Qa7 hp_wo).mono ?_;rintro e w1⟨rfl,hF⟩;have hO1:=Qaj (S:=fun _=>False) hO_wo (.below hF) (fun _ h=>h.elim);have hs1:=hF.size;have hX1:=hX_wo.trans (.below hF);have hp1:=hp_wo.below hF;clear hO_wo hX_wo hp_wo;clear hF;cases ht:(u.tx.toList==[93])with
  | true =>
   have HR:=Hi (show uids L ts=some (acc,u::q)by rw[HF.out,←HG.out,Qcg];simp[tx,ht]);go_wp2
   go_ret2
   rw[HR.out];exact⟨hX1,_,rfl,hp1,hO1,by omega⟩
  | false =>
   have hnc:=ht;clear ht
   go_wp2_with fail
   refine(Qb2 HL.out _ _ hp1 hvw (by omega)).mono ?_;rintro e w2⟨hF,hr⟩;have hO2:=Qaj hO1 hF (fun d hd=>by omega);have hs2:=hF.size;have hX2:=hX1.trans hF;clear hO1 hX1;clear hF;cases hm:entity L (u::q)with
   | none =>
    rw[hm]at hr;obtain⟨a9,b9,T2,v2,rfl⟩:=hr;have HR:=Hi (show uids L ts=none by rw[HF.out,←HG.out,Qcg];simp[tx,hnc,hm]);clear hm;go_wp2
    go_ret2
    rw[HR.out];exact⟨hX2.alloc _,_,_,v2.to (fun _ h=>Qip h),rfl⟩
   | some p =>
    obtain⟨⟨t9,i9⟩,us⟩:=p;rw[hm]at hr;obtain⟨rfl,hp9⟩:=hr;have hsh:=Qb8 _ _ _ hvw hm;have hwu:=hsh.1.wf hvw;have hl2:=hsh.2;have HM:=Hi hm;clear hm hsh
    go_upto_region 4 with(fail)
    obtain⟨w3,hw⟩:∃w3,w2.alloc (.cells #[.string t9,.string i9] 167)=w3:=⟨_,rfl⟩
    rw[hw];have hF:Below w2.heap.size w2 w3:=by rw[←hw];exact Qab _ _
    have hB3:w3.heap[w2.heap.size]? =some (.cells #[.string t9,.string i9] 167 (0,0)):=by rw[←hw];exact Xa _ _
    have hs3:w2.heap.size+1≤w3.heap.size:=by rw[←hw];simp
    clear hw;have hO3:=Qaj (S:=fun _=>False) hO2 (.below hF) (fun _ h=>h.elim);have hX3:=hX2.trans (.below hF);have hp3:=hp9.below hF;clear hO2 hX2 hp9;clear hF;obtain⟨c_hB_0,c_hB_1⟩:=Cl2 hB3 rfl rfl;have n0:∀j u,[Value.string t9,Value.string i9][j]? =some u→(w3.alloc (.cells #[.string t9,.string i9] 167)).cell? ⟨w3.heap.size,j,none⟩=some u:=by
     intro j u hj;exact Qaa (Xa _ _) (by simpa using hj)
    have hOa:=Qaj (S:=fun _=>False) hO3 (.below (Qab _ (.cells #[.string t9,.string i9] 167))) (fun _ h=>h.elim);have hpa:=hp3.below (Qab _ (.cells #[.string t9,.string i9] 167));have hXa:=hX3.alloc (.cells #[.string t9,.string i9] 167);clear hO3 hB3 hp3 hX3
    go_wp2_with(at_builtin;refine appG sl172 rfl _ _ rfl (w.heap.size) _ _ _ rfl hOa _ [.string t9,.string i9] rfl rfl n0 (fun v hv=>by simp at hv;rcases hv with rfl | rfl<;>rfl) (by unfold maxLen;omega) (by omega) (by simp;omega) ?_)
    intro v9 w9 hO9 hg9 _;have hs9:w3.heap.size≤w9.heap.size:=by have:=hg9.size;simp at this;omega
    rw[←Qbm]at hO9;have hp_w9:=hpa.grow hOa hg9 (by omega);have hX9:=hXa.grow hOa hg9 (by omega);clear hOa hpa hXa n0 hg9 c_hB_0 c_hB_1;obtain⟨u2,q2,rfl⟩:∃u q,us=u::q:=by cases us with | nil=>exact absurd rfl hp_w9.ne | cons u q=>exact⟨u,q,rfl⟩
    go_wp2_with fail
    refine(Qa7 hp_w9).mono ?_;rintro e w10⟨rfl,hF⟩;have hO10:=Qaj (S:=fun _=>False) hO9 (.below hF) (fun _ h=>h.elim);have hs10:=hF.size;have hX10:=hX9.trans (.below hF);have hp10:=hp_w9.below hF;clear hO9 hX9 hp_w9;clear hF;cases ht:(u2.tx.toList==[44])with
    | true =>
     have hau:(adv (u2::q2)).length<(u2::q2).length:=Qax hwu (s:=[44]) ht (by decide)
     go_wp2_with fail
     refine(Qaz hp10).mono ?_;rintro e w11⟨rfl,hp11,hF⟩;have hO11:=Qaj hO10 hF (fun d hd=>by omega);have hs11:=hF.size;have hX11:=hX10.trans hF;clear hO10 hX10 hp10;clear hF;have HG2:=Hi (show Qcg L g (acc++[(t9,i9)]) (adv (u2::q2))=Qcg L (ts.length+1) [] ts by rw[←HG.out,Qcg];simp[tx,hnc,HM.out,ht]);go_wp2;go_roundw
     case rel=>exact⟨g,acc++[(t9,i9)],_,HG2.out,by omega,hwu.adv,by omega,by rw[List.length_append];show acc.length+1+_≤_;omega,hp11,by simpa using hO11,hX11⟩
     case measure =>
      rw[hp11.left,HLF.out];omega
    | false =>
     have hnk:=ht;clear ht;cases ht:(u2.tx.toList==[93])with
     | true =>
      have HG2:=Hi (show Qcg L g (acc++[(t9,i9)]) (u2::q2)=Qcg L (ts.length+1) [] ts by obtain⟨g',rfl⟩:∃g',g=g'+1:=⟨g-1,by omega⟩;rw[←HG.out];simp[Qcg,tx,hnc,HM.out,hnk,ht]);go_wp2;go_roundw
      case rel=>exact⟨g,acc++[(t9,i9)],_,HG2.out,by omega,hwu,by omega,by rw[List.length_append];show acc.length+1+_≤_;omega,hp10,by simpa using hO10,hX10⟩
      case measure =>
       rw[hp10.left,HLF.out];omega
     | false =>
      have HR:=Hi (show uids L ts=none by rw[HF.out,←HG.out,Qcg];simp[tx,hnc,HM.out,hnk,ht])
      go_wp2_with fail
      refine(Qa7 hp10).mono ?_;rintro e w11⟨rfl,hF⟩;have hO11:=Qaj (S:=fun _=>False) hO10 (.below hF) (fun _ h=>h.elim);have hs11:=hF.size;have hX11:=hX10.trans (.below hF);have hp11:=hp10.below hF;clear hO10 hX10 hp10;clear hF
      go_wp2_with fail
      refine(Qay (hp11.below (Qab _ _)) _ _).mono ?_;rintro e w12⟨T9,v9,rfl,hF0⟩;have hF:=(Qab w11 (.cells #[.iface 9 (.string u2.tx)] 20)).trans (hF0.mono (by simp));clear hF0;have hO12:=Qaj (S:=fun _=>False) hO11 (.below hF) (fun _ h=>h.elim);have hs12:=hF.size;have hX12:=hX11.trans (.below hF);have hp12:=hp11.below hF;clear hO11 hX11 hp11;clear hF;go_wp2
      go_ret2
      rw[HR.out];exact⟨hX12,_,_,_,rfl⟩
def QaI(L:Lex)(ts:Toks):Option (Scp×Toks):=match exact [97,99,116,105,111,110] ts with
 | none=>none
 | some us=>if(tx us==[61,61])=true then(match entity L (adv us)with
   | none=>none
   | some (u,vs)=>some (.eq u,vs))
  else if(tx us==[105,110])=true then(if(tx (adv us)==[91])=true then(match uids L (adv (adv us))with
    | none=>none
    | some (l,vs)=>some (.inSet l,adv vs))
   else match entity L (adv us)with
    | none=>none
    | some (u,vs)=>some (.within u,vs))
  else some (.all,us)
theorem row_uids{w:World}{B base:Nat}{s:Value}{l:List (ByteArray×ByteArray)}(h:w.ownsRow B 167 2 s l.length (Qav l))(hb:base≤B) :
  ∃p c,s=.slice p l.length c∧Row2At w base 167 p l.length (fun i=>.string (l.getD i (⟨#[]⟩,⟨#[]⟩)).1) (fun i=>.string (l.getD i (⟨#[]⟩,⟨#[]⟩)).2):=by
 rcases Qc6 h with⟨h1,h2⟩ | ⟨g,cap,c,h1,hge,hg,_,_,hcc⟩
 ·exact⟨none,0,by rw[h2,h1],.inl h1⟩
 ·refine⟨_,_,h1,.inr ⟨g,0,c,_,rfl,by omega,hg,fun j hj=>?_⟩⟩
  have:=Qcd l j hj;rw[Nat.zero_add,hcc _ (by omega),hcc _ (by omega)];exact this
theorem QbT{w:World}{B:Nat}{e:TypeId}{s:Value}{n:Nat}{xs:List Value}(h:w.ownsRow B e 2 s n xs):∃p c,s=.slice p n c:=by
 rcases Qc6 h with⟨h1,h2⟩ | ⟨g,cap,c,h1,_⟩
 ·exact⟨none,0,by rw[h2,h1]⟩
 ·exact⟨_,_,h1⟩
theorem action_w{L:Lex}(hL:LexC L){bp base pb:Nat}{e an pr ac re cs fn off ln col:Value}(w:World)(ts:Toks)(hp:PS w bp base ts)(hwf:Wf ts)(hbs:base≤w.heap.size)(hpb:base≤pb)(hL0:Qa8 w pb e an pr ac re cs fn off ln col) :
  Calls prog 72 #[.pointer (some ⟨bp,0,none⟩),.pointer (some ⟨pb,0,none⟩)] w (ScP bp base pb w (fun w' v=>Qa8 w' pb e an pr v re cs fn off ln col) ac (QaI L ts)):=by
 have hbb:=hp.hbp;have h15:=hp.h15;have hlen:=hp.len;have HL:=Hi hL;clear hL;unfold Qa8 at hL0;have hL_w:=hL0;clear hL0;have ltP:=Qad hL_w;obtain⟨u,q,rfl⟩:∃u q,ts=u::q:=by cases ts with | nil=>exact absurd rfl hp.ne | cons u q=>exact⟨u,q,rfl⟩
 have hwa:=hwf.adv;go_enter func72,ntmps72;cases ht:(u.tx.toList==[97,99,116,105,111,110])with
 | false =>
  go_wp2_with fail
  refine(Qa9 hp ht).mono ?_;rintro e w1⟨T9,v9,rfl,hp1,hF⟩;have hL1:=hF.heap (by omega) hL_w;have hs1:=hF.size;have hX1:Ext (·=bp) w w1:=hF;clear hL_w hp;clear hF;have HR:=Hi (show QaI L (u::q)=none by unfold QaI;simp only[exact,tx,Xf,if_false,if_true,ht]);go_wp2;go_ret;rw[HR.out];exact Qbb rfl hX1
 | true =>
  go_wp2_with fail
  refine(Qa0 hp ht).mono ?_;rintro e w1⟨rfl,hp1,hF⟩;have hL1:=hF.heap (by omega) hL_w;have hs1:=hF.size;have hX1:Ext (·=bp) w w1:=hF;clear hL_w hp;clear hF;obtain⟨u2,q2,ha2⟩:∃a b,adv (u::q)=a::b:=by
   cases h:adv (u::q)with
   | nil=>rw[h]at hwa;exact absurd rfl hwa.ne
   | cons a b=>exact⟨a,b,rfl⟩
  rw[ha2]at hwa hp1;have HA2:=Hi ha2;clear ha2;have hwb:=hwa.adv
  go_wp2_with fail
  refine(Qa7 hp1).mono ?_;rintro e w2⟨rfl,hF⟩;have hL2:=Bk hF hL1;have hs2:=hF.size;have hX2:=hX1.trans (.below hF);have hp2:=hp1.below hF;clear hL1 hX1 hp1;clear hF;cases hu:(u2.tx.toList==[61,61])with
  | true =>
   go_wp2_with fail
   refine(Qaz hp2).mono ?_;rintro e w3⟨rfl,hp3,hF⟩;have hL3:=hF.heap (by omega) hL2;have hs3:=hF.size;have hX3:=hX2.trans hF;clear hL2 hX2 hp2;clear hF
   go_wp2_with fail
   refine(Qb2 HL.out _ (adv (u2::q2)) hp3 hwb (by omega)).mono ?_;rintro e w4⟨hF,hr⟩;have hL4:=hF.heap (by omega) hL3;have hs4:=hF.size;have hX4:=hX3.trans hF;clear hL3 hX3;clear hF;cases hm:entity L (adv (u2::q2))with
   | none =>
    rw[hm]at hr;obtain⟨a9,b9,T9,v9,rfl⟩:=hr;have HR:=Hi (show QaI L (u::q)=none by unfold QaI;simp only[exact,tx,Xf,if_false,if_true,ht,HA2.out,hu,hm]);go_wp2;go_ret;rw[HR.out];exact Qbb rfl (hX4.alloc _)
   | some p9 =>
    obtain⟨⟨t9,i9⟩,us⟩:=p9;rw[hm]at hr;obtain⟨rfl,hp9⟩:=hr;have hbx:=Qab w4 (.cells #[.string t9,.string i9] 167)
    go_wp2_with fail
    refine(set102_c t9 i9 (h:=(Qaf hL4 (.cells #[.string t9,.string i9] 167)))).mono ?_;rintro r w5⟨rfl,hPN,hXN⟩;have HR:=Hi (show QaI L (u::q)=some (.eq (t9,i9),us)by unfold QaI;simp only[exact,tx,Xf,if_false,if_true,ht,HA2.out,hu,hm]);have HP:=Hi hPN;clear hPN hL4 hm;go_wp2;go_ret;rw[HR.out];exact Qbf rfl (hX4.trans (.below hbx)) hXN (hp9.below hbx) hpb HP.out rfl
  | false =>
   have h_q:=hu;clear hu;cases hu:(u2.tx.toList==[105,110])with
   | false =>
    have HR:=Hi (show QaI L (u::q)=some (.all,u2::q2)by unfold QaI;simp only[exact,tx,Xf,if_false,if_true,ht,HA2.out,h_q,hu]);have HP:=Hi hL2;clear hL2;go_wp2;go_ret;rw[HR.out];exact Qbf rfl hX2 (.refl _ _) hp2 hpb HP.out rfl
   | true =>
    go_wp2_with fail
    refine(Qaz hp2).mono ?_;rintro e w3⟨rfl,hp3,hF⟩;have hL3:=hF.heap (by omega) hL2;have hs3:=hF.size;have hX3:=hX2.trans hF;clear hL2 hX2 hp2;clear hF;obtain⟨u3,q3,ha3⟩:∃a b,adv (u2::q2)=a::b:=by
     cases h:adv (u2::q2)with
     | nil=>rw[h]at hwb;exact absurd rfl hwb.ne
     | cons a b=>exact⟨a,b,rfl⟩
    rw[ha3]at hwb hp3;have HA3:=Hi ha3;clear ha3;have hwc:=hwb.adv
    go_wp2_with fail
    refine(Qa7 hp3).mono ?_;rintro e w4⟨rfl,hF⟩;have hL4:=Bk hF hL3;have hs4:=hF.size;have hX4:=hX3.trans (.below hF);have hp4:=hp3.below hF;clear hL3 hX3 hp3;clear hF;cases hi:(u3.tx.toList==[91])with
    | false =>
     go_wp2_with fail
     refine(Qb2 HL.out _ (u3::q3) hp4 hwb (by omega)).mono ?_;rintro e w5⟨hF,hr⟩;have hL5:=hF.heap (by omega) hL4;have hs5:=hF.size;have hX5:=hX4.trans hF;clear hL4 hX4;clear hF;cases hm:entity L (u3::q3)with
     | none =>
      rw[hm]at hr;obtain⟨a9,b9,T9,v9,rfl⟩:=hr;have HR:=Hi (show QaI L (u::q)=none by unfold QaI;simp only[exact,tx,Xf,if_false,if_true,ht,HA2.out,h_q,hu,HA3.out,hi,hm]);go_wp2;go_ret;rw[HR.out];exact Qbb rfl (hX5.alloc _)
     | some p9 =>
      obtain⟨⟨t9,i9⟩,us⟩:=p9;rw[hm]at hr;obtain⟨rfl,hp9⟩:=hr;have hbx:=Qab w5 (.cells #[.string t9,.string i9] 167)
      go_wp2_with fail
      refine(set105_c t9 i9 (h:=(Qaf hL5 (.cells #[.string t9,.string i9] 167)))).mono ?_;rintro r w6⟨rfl,hPN,hXN⟩;have HR:=Hi (show QaI L (u::q)=some (.within (t9,i9),us)by unfold QaI;simp only[exact,tx,Xf,if_false,if_true,ht,HA2.out,h_q,hu,HA3.out,hi,hm]);have HP:=Hi hPN;clear hPN hL5 hm;go_wp2;go_ret;rw[HR.out];exact Qbf rfl (hX5.trans (.below hbx)) hXN (hp9.below hbx) hpb HP.out rfl
    | true =>
     go_wp2_with fail
     refine(Qaz hp4).mono ?_;rintro e w5⟨rfl,hp5,hF⟩;have hL5:=hF.heap (by omega) hL4;have hs5:=hF.size;have hX5:=hX4.trans hF;clear hL4 hX4 hp4;clear hF
     go_wp2_with fail
     refine(uids_w HL.out _ _ hp5 hwc (by omega)).mono ?_;rintro e w6⟨hF,hr⟩;have hL6:=hF.heap (by omega) hL5;have hs6:=hF.size;have hX6:=hX5.trans hF;clear hL5 hX5;clear hF;cases hm:uids L (adv (u3::q3))with
     | none =>
      rw[hm]at hr;obtain⟨s9,T9,v9,rfl⟩:=hr;have HR:=Hi (show QaI L (u::q)=none by unfold QaI;simp only[exact,tx,Xf,if_false,if_true,ht,HA2.out,h_q,hu,HA3.out,hi,hm]);go_wp2;go_ret;rw[HR.out];exact Qbb rfl hX6
     | some p9 =>
      obtain⟨l9,us⟩:=p9;rw[hm]at hr;obtain⟨s9,rfl,hp9,hO,hll⟩:=hr;have HR:=Hi (show QaI L (u::q)=some (.inSet l9,adv us)by unfold QaI;simp only[exact,tx,Xf,if_false,if_true,ht,HA2.out,h_q,hu,HA3.out,hi,hm]);clear hm;obtain⟨p9,c9,rfl⟩:=QbT hO;obtain⟨u4,q4,rfl⟩:∃u q,us=u::q:=by cases us with | nil=>exact absurd rfl hp9.ne | cons u q=>exact⟨u,q,rfl⟩
      go_wp2_with fail
      refine(set104_c p9 l9.length c9 (h:=hL6)).mono ?_;rintro r w7⟨rfl,hPN,hXN⟩;have hO2:=Qcc hO hXN (fun d hd c fr h=>by subst hd;rw[hL6]at h;cases h);have hpN:=hp9.ext hXN (fun d k=>by subst k;exact hpb);have hsN:=hXN.size;clear hO hL6;unfold Qa8 at hPN;have HP0:=Hi hPN;clear hPN
      go_wp2_with fail
      refine(Qaz hpN).mono ?_;rintro r w8⟨rfl,hpM,hXM⟩;have hO3:=Qaj hO2 hXM (fun d hd=>by subst hd;omega);obtain⟨p8,c8,he8,hrow⟩:=row_uids hO3 (base:=base) (by omega);cases he8;have HP:=Hi (hXM.heap (by omega) HP0.out);go_wp2;go_ret;rw[HR.out];exact⟨((hX6.mono (fun d h=>.inl h)).trans (hXN.mono (fun d h=>.inr h))).trans (hXM.mono (fun d h=>.inl h)),_,rfl,hpM,HP.out,_,_,rfl,hrow⟩
theorem sl98:SlT prog 98 138 (.agg #[.bool false,.nilIface]) 2 24:=⟨by kernel_rfl,⟨Tryz.t138,by kernel_rfl,by kernel_rfl,by kernel_rfl,by kernel_rfl⟩,rfl,by decide⟩
theorem Qfy{P:Program}{ops:Array Oper}{o:Oper}{a:Act}{w:World}{K:Act→World→Prop}{Q:Exit→Act→World→Prop}{E:Prop}{T Te:TypeId}{z:Value}{sz by':Nat}(hT:SlT P T Te z sz by')
  (hg:o.guard=none)(s xo:Operand)(ho:o.op=.call {callee:=.builtin .append,args:=#[s,xo],argTypes:=#[T,T]})(base:Nat)(v:Value)(n:Nat)(xs:List Value)(hs:a.eval s=v)(hown:w.ownsRow base Te sz v n xs)
  (blk:Nat)(news:List Value)(hl:news.length=1*sz)(hx:a.eval xo=.slice (some ⟨blk,0,none⟩) 1 1)(hc:∀j u,news[j]? =some u→w.cell? ⟨blk,j,none⟩=some u)(h1:∀v∈news,v.oneCell'=true)(hm:n+1≤maxLen)(hn:(n+1)*by'≤140737488355328)(hbase:base≤w.heap.size)
  (hK:∀v' w',w'.ownsRow base Te sz v' (n+1) (xs++news)→w.grownBy w' v.ownBlock→K (a.put o.dst v') w') :
  if Region.wanted o (yielded ops a.tmps)=true then Oper.wp P o a w K Q else E:=by
 obtain⟨i0,hi,hz0,hz1,hz2⟩:=hT.i;have hw:Region.wanted o (yielded ops a.tmps)=true:=by simp[Region.wanted,hg]
 rw[if_pos hw];obtain⟨v',w',hrun,r1,r2,_⟩:=run_append_own (P:=P) w base T o.type Te i0 z sz by' hT.hu hi hz0 hz1 hz2 hT.zs hT.pos v n xs hown ⟨blk,0,none⟩ 1 1 news hl (fun j u hj=>by
  have:=hc j u hj;by_cases h0:j=0
  ·subst h0;simpa [Addr.add]using this
  ·simpa [Addr.add,h0]using this) h1 hm hn hbase
 unfold Oper.wp;simp[execOp,ho,resolve,invoke,builtin,hs,hx,hrun,Result.andThen];exact hK v' w' r1 r2
theorem QgX{w:World}{pb B n cap:Nat}{p:Option Addr}{cells:List Value}{e an pr ac re fn off ln col:Value}{T:TypeId}{v:Value}(h:Qa8 w pb e an pr ac re (.slice p n cap) fn off ln col)(ho:w.ownsRow B 138 2 (.slice p n cap) n cells)(hn:n≤1000000)(hB:B≤w.heap.size) :
  Calls prog 111 #[.pointer (some ⟨pb,0,none⟩),.agg #[.iface T v]] w fun r w'=>r=.returned (.pointer (some ⟨pb,0,none⟩))∧∃p' cap',Qa8 w' pb e an pr ac re (.slice p' (n+1) cap') fn off ln col∧w'.ownsRow B 138 2 (.slice p' (n+1) cap') (n+1) (cells++[.bool true,.iface T v])∧Ext (fun d=>d=pb∨(Value.slice p n cap).ownBlock=some d) w w':=by
 unfold Qa8 at h;have hl:=Qad h;go_enter func111,ntmps111
 go_upto_region 1 with(fail)
 obtain⟨w1,hw⟩:∃w1,w.alloc (.cells #[.iface T v] 299)=w1:=⟨_,rfl⟩
 rw[hw];have hb:Below w.heap.size w w1:=by rw[←hw];exact Qab _ _
 have hx:w1.heap[w.heap.size]? =some (.cells #[.iface T v] 299 (0,0)):=by rw[←hw];exact Xa _ _
 have h1:=(hb.block pb hl).trans h;have ho1:=Qaj (S:=fun _=>False) ho (.below hb) (fun _ k=>k.elim);have hs1:=hb.size;have c5:w1.cell? ⟨pb,5,none⟩=some (.slice p n cap):=Qaa h1 rfl;have x0:w1.cell? ⟨w.heap.size,0,none⟩=some (.iface T v):=Qaa hx rfl;have hXA:Ext (fun _=>False) w1 (w1.alloc (.cells #[.bool true,.iface T v] 138)).drew:=((Ext.refl _ _).alloc _).drew;have ho2:=Qaj ho1 hXA (fun _ k=>k.elim)
 have h2:=hXA.heap (fun k=>k) h1;have hs2:w1.heap.size≤(w1.alloc (.cells #[.bool true,.iface T v] 138)).drew.heap.size:=hXA.size;have n0:∀j u,[Value.bool true,Value.iface T v][j]? =some u→(w1.alloc (.cells #[.bool true,.iface T v] 138)).drew.cell? ⟨w1.heap.size,j,none⟩=some u:=by
  intro j u hj;have hnew:(w1.alloc (.cells #[.bool true,.iface T v] 138)).drew.heap[w1.heap.size]? =some (.cells #[.bool true,.iface T v] 138 (0,0)):=Xa w1 (.cells #[.bool true,.iface T v] 138);exact Qaa hnew (by simpa using hj)
 have c5':(w1.alloc (.cells #[.bool true,.iface T v] 138)).drew.cell? ⟨pb,5,none⟩=some (.slice p n cap):=Qaa h2 rfl;have HH:=Hi (Xc ho2 (Xc h2 (Xc n0 (Xc hs2 ((Ext.below (S:=fun _=>False) hb).trans hXA)))));clear hw h h1 hx hb ho ho1 ho2 h2 n0 hXA hs2
 go_region_law (refine Qfy sl98 rfl (.tmp 9) (.tmp 13) rfl B (.slice p n cap) n cells rfl HH.out.1 w1.heap.size [.bool true,.iface T v] rfl rfl HH.out.2.2.1 (fun v hv=>by simp at hv;rcases hv with rfl | rfl<;>rfl) (by unfold maxLen;omega) (by omega) (by have:=HH.out.2.2.2.1;omega) ?_;intro v9 w9 hO9 hg9;obtain⟨p9,k9,rfl⟩:=QbT hO9;have h9:=QaR HH.out.2.1 HH.out.1 hg9 (by decide);have c9:=Qaa (o:=5) h9 rfl;have f9:=Qae h9 5)
 all_goals go_wp2
 all_goals go_ret
 all_goals exact⟨rfl,p9,k9,Qac (o:=5) h9 _,Qdo (o:=5) hO9 h9 (by decide) _,((HH.out.2.2.2.2.mono (fun d k=>k.elim)).trans' (QaF HH.out.1 hg9) (fun d k=>.inl (.inr k))).set (p:=⟨pb,5,none⟩) (.inl (.inl rfl)) _⟩
theorem QgY{w:World}{pb B n cap:Nat}{p:Option Addr}{cells:List Value}{e an pr ac re fn off ln col:Value}{T:TypeId}{v:Value}(h:Qa8 w pb e an pr ac re (.slice p n cap) fn off ln col)(ho:w.ownsRow B 138 2 (.slice p n cap) n cells)(hn:n≤1000000)(hB:B≤w.heap.size) :
  Calls prog 112 #[.pointer (some ⟨pb,0,none⟩),.agg #[.iface T v]] w fun r w'=>r=.returned (.pointer (some ⟨pb,0,none⟩))∧∃p' cap',Qa8 w' pb e an pr ac re (.slice p' (n+1) cap') fn off ln col∧w'.ownsRow B 138 2 (.slice p' (n+1) cap') (n+1) (cells++[.bool false,.iface T v])∧Ext (fun d=>d=pb∨(Value.slice p n cap).ownBlock=some d) w w':=by
 unfold Qa8 at h;have hl:=Qad h;go_enter func112,ntmps112
 go_upto_region 1 with(fail)
 obtain⟨w1,hw⟩:∃w1,w.alloc (.cells #[.iface T v] 299)=w1:=⟨_,rfl⟩
 rw[hw];have hb:Below w.heap.size w w1:=by rw[←hw];exact Qab _ _
 have hx:w1.heap[w.heap.size]? =some (.cells #[.iface T v] 299 (0,0)):=by rw[←hw];exact Xa _ _
 have h1:=(hb.block pb hl).trans h;have ho1:=Qaj (S:=fun _=>False) ho (.below hb) (fun _ k=>k.elim);have hs1:=hb.size;have c5:w1.cell? ⟨pb,5,none⟩=some (.slice p n cap):=Qaa h1 rfl;have x0:w1.cell? ⟨w.heap.size,0,none⟩=some (.iface T v):=Qaa hx rfl;have hXA:Ext (fun _=>False) w1 (w1.alloc (.cells #[.bool false,.iface T v] 138)).drew:=((Ext.refl _ _).alloc _).drew;have ho2:=Qaj ho1 hXA (fun _ k=>k.elim)
 have h2:=hXA.heap (fun k=>k) h1;have hs2:w1.heap.size≤(w1.alloc (.cells #[.bool false,.iface T v] 138)).drew.heap.size:=hXA.size;have n0:∀j u,[Value.bool false,Value.iface T v][j]? =some u→(w1.alloc (.cells #[.bool false,.iface T v] 138)).drew.cell? ⟨w1.heap.size,j,none⟩=some u:=by
  intro j u hj;have hnew:(w1.alloc (.cells #[.bool false,.iface T v] 138)).drew.heap[w1.heap.size]? =some (.cells #[.bool false,.iface T v] 138 (0,0)):=Xa w1 (.cells #[.bool false,.iface T v] 138);exact Qaa hnew (by simpa using hj)
 have c5':(w1.alloc (.cells #[.bool false,.iface T v] 138)).drew.cell? ⟨pb,5,none⟩=some (.slice p n cap):=Qaa h2 rfl;have HH:=Hi (Xc ho2 (Xc h2 (Xc n0 (Xc hs2 ((Ext.below (S:=fun _=>False) hb).trans hXA)))));clear hw h h1 hx hb ho ho1 ho2 h2 n0 hXA hs2
 go_region_law (refine Qfy sl98 rfl (.tmp 9) (.tmp 13) rfl B (.slice p n cap) n cells rfl HH.out.1 w1.heap.size [.bool false,.iface T v] rfl rfl HH.out.2.2.1 (fun v hv=>by simp at hv;rcases hv with rfl | rfl<;>rfl) (by unfold maxLen;omega) (by omega) (by have:=HH.out.2.2.2.1;omega) ?_;intro v9 w9 hO9 hg9;obtain⟨p9,k9,rfl⟩:=QbT hO9;have h9:=QaR HH.out.2.1 HH.out.1 hg9 (by decide);have c9:=Qaa (o:=5) h9 rfl;have f9:=Qae h9 5)
 all_goals go_wp2
 all_goals go_ret
 all_goals exact⟨rfl,p9,k9,Qac (o:=5) h9 _,Qdo (o:=5) hO9 h9 (by decide) _,((HH.out.2.2.2.2.mono (fun d k=>k.elim)).trans' (QaF HH.out.1 hg9) (fun d k=>.inl (.inr k))).set (p:=⟨pb,5,none⟩) (.inl (.inl rfl)) _⟩
def CondsIs(w:World)(lo:Nat)(cells:List Value)(l:List (Bool×Ex)):Prop :=
 cells.length=l.length*2∧∀(i:Nat)(a:Bool×Ex),l[i]? =some a→cells[i*2]? =some (.bool a.1)∧∃(T:TypeId)(v:Value),cells[i*2+1]? =some (Value.iface T v)∧NodeIs w lo (.iface T v) a.2
theorem CondsIs.nil{w:World}{lo:Nat}:CondsIs w lo [] []:=⟨rfl,fun i a h=>by simp at h⟩
theorem CondsIs.extG{w w':World}{lo:Nat}{S:Nat→Prop}{vals:List Value}{l:List (Bool×Ex)}(h:CondsIs w lo vals l)(he:Ext S w w')(hs:∀d,S d→∀T c fr,w.heap[d]? =some (.cells c T fr)→T≠136∧T≠221∧T≠316):CondsIs w' lo vals l :=
 ⟨h.1,fun i a hi=>by obtain⟨h0,T,v,h1,h2⟩:=h.2 i a hi;exact⟨h0,T,v,h1,h2.extG he hs⟩⟩
theorem CondsIs.ext{w w':World}{lo:Nat}{S:Nat→Prop}{vals:List Value}{l:List (Bool×Ex)}(h:CondsIs w lo vals l)(he:Ext S w w')(hs:∀d,S d→Soft w lo d):CondsIs w' lo vals l :=
 ⟨h.1,fun i a hi=>by obtain⟨h0,T,v,h1,h2⟩:=h.2 i a hi;exact⟨h0,T,v,h1,h2.ext he hs⟩⟩
theorem CondsIs.keep{w w':World}{lo:Nat}{S:Nat→Prop}{vals:List Value}{l:List (Bool×Ex)}(h:CondsIs w lo vals l)(he:Ext S w w')(hs:∀d,S d→d<lo):CondsIs w' lo vals l:=h.ext he (fun d hd=>.inl (hs d hd))
theorem CondsIs.later{w w':World}{lo:Nat}{vals:List Value}{l:List (Bool×Ex)}(h:CondsIs w lo vals l)(hb:Below w.heap.size w w'):CondsIs w' lo vals l:=h.ext (S:=fun _=>False) (.below hb) (fun _ k=>k.elim)
theorem CondsIs.grow{w w':World}{lo:Nat}{vals:List Value}{l:List (Bool×Ex)}{base:Nat}{e:TypeId}{size:Nat}{v:Value}{n:Nat}{xs:List Value}(h:CondsIs w lo vals l)(ho:w.ownsRow base e size v n xs)(hg:w.grownBy w' v.ownBlock)(he:e≠136∧e≠221∧e≠316)(he':e≠348:=by decide):CondsIs w' lo vals l :=
 ⟨h.1,fun i a hi=>by obtain⟨h0,T,v,h1,h2⟩:=h.2 i a hi;exact⟨h0,T,v,h1,h2.grow ho hg he he'⟩⟩
theorem CondsIs.snoc{w:World}{lo:Nat}{vals:List Value}{l:List (Bool×Ex)}{k:Bool}{T:TypeId}{v:Value}{x:Ex}(h:CondsIs w lo vals l)(hx:NodeIs w lo (.iface T v) x):CondsIs w lo (vals++[.bool k,.iface T v]) (l++[(k,x)]):=by
 obtain⟨hlen,h⟩:=h;refine⟨by simp[hlen];omega,fun i a hi=>?_⟩;by_cases hl:i<l.length
 ·rw[List.getElem?_append_left hl]at hi
  obtain⟨h0,T,v,h1,h2⟩:=h i a hi;exact⟨by rw[List.getElem?_append_left (by omega)];exact h0,T,v,by rw[List.getElem?_append_left (by omega)];exact h1,h2⟩
 ·rw[List.getElem?_append_right (by omega)]at hi
  have h0:i=l.length:=by
   rcases Nat.eq_zero_or_pos (i-l.length)with h | h
   ·omega
   ·rw[List.getElem?_eq_none (by simp only[List.length_singleton];omega)]at hi;cases hi
  subst h0;simp at hi;subst hi;refine⟨?_,T,v,?_,hx⟩
  ·rw[List.getElem?_append_right (by omega),show l.length*2-vals.length=0 by omega];rfl
  ·rw[List.getElem?_append_right (by omega),show l.length*2+1-vals.length=1 by omega];rfl
def Qbh(E:Toks→Option (Ex×Toks)):Nat→List (Bool×Ex)→Toks→Option (List (Bool×Ex)×Toks)
 | 0,_,_=>none
 | f+1,acc,ts=>if(tx ts==[119,104,101,110])=true then(match cond E (adv ts)with
   | none=>none
   | some (x,us)=>Qbh E f (acc++[(true,x)]) us)
  else if(tx ts==[117,110,108,101,115,115])=true then(match cond E (adv ts)with
   | none=>none
   | some (x,us)=>Qbh E f (acc++[(false,x)]) us)
  else some (acc,ts)
def conds(E:Toks→Option (Ex×Toks))(ts:Toks):Option (List (Bool×Ex)×Toks):=Qbh E (ts.length+1) [] ts
theorem Qdr{E:Toks→Option (Ex×Toks)}(hE:Sh E){ts us:Toks}{x:Ex}(h:Wf ts)(he:cond E ts=some (x,us)):Sf us ts:=by
 rw[cond]at he;split at he
 ·cases he
 ·rename_i vs hv
  have h1:=QaC h hv;split at he
  ·cases he
  ·rename_i y zs hz
   have h2:=hE _ _ _ (h1.wf h) hz;split at he
   ·cases he
   ·rename_i zs' hz'
    cases he;have h3:=QaC (h2.1.wf (h1.wf h)) hz';exact h3.trans (h2.1.trans h1)
def CdRel(m:Nat→List (Bool×Ex)→Toks→Option (List (Bool×Ex)×Toks))(bp base pb N:Nat)(e an pr ac re fn off ln col:Value)(w:World)(Rm:Option (List (Bool×Ex)×Toks))(wr:World):Prop :=
 ∃g acc cells p cap vs,m g acc vs=Rm∧vs.length<g∧Wf vs∧vs.length≤N∧acc.length+vs.length≤N∧PS wr bp base vs∧Qa8 wr pb e an pr ac re (.slice p acc.length cap) fn off ln col∧wr.ownsRow w.heap.size 138 2 (.slice p acc.length cap) acc.length cells∧CondsIs wr base cells acc∧Ext (fun d=>d=bp∨d=pb) w wr
def CondsP(bp base pb:Nat)(e an pr ac re fn off ln col:Value)(w:World)(r:Option (List (Bool×Ex)×Toks))(t:Ending)(w':World):Prop :=
 Ext (fun d=>d=bp∨d=pb) w w'∧match r with
 | none=>∃T,∃v:EVal base w' T,t=.returned (.iface T v.1)
 | some (l,us)=>t=.returned .nilIface∧PS w' bp base us∧∃p cap cells,Qa8 w' pb e an pr ac re (.slice p l.length cap) fn off ln col∧w'.ownsRow w.heap.size 138 2 (.slice p l.length cap) l.length cells∧CondsIs w' base cells l
theorem conds_w{E:Toks→Option (Ex×Toks)}{bp base pb N:Nat}{e an pr ac re fn off ln col:Value}(hE:Sh E)(hC:FnC 149 E bp base N)(w:World)(ts:Toks)(hp:PS w bp base ts)(hwf:Wf ts)(hN:ts.length≤N)(hbs:base≤w.heap.size)(hpb:base≤pb)(hL0:Qa8 w pb e an pr ac re (.slice none 0 0) fn off ln col) :
  Calls prog 75 #[.pointer (some ⟨bp,0,none⟩),.pointer (some ⟨pb,0,none⟩)] w (CondsP bp base pb e an pr ac re fn off ln col w (conds E ts)):=by
 have hbb:=hp.hbp;have h15:=hp.h15;have hlen:=hp.len;have ltP:=Qad hL0;have HC:=Hi hC;have HE:=Hi hE;clear hC hE;have HF:=Hi (show conds E ts=Qbh E (ts.length+1) [] ts from rfl);have HL0:=Hi hL0;clear hL0;go_enter func75,ntmps75
 go_upto_region 1 with(fail)
 go_loopw [6] (fun _ wr=>CdRel (Qbh E) bp base pb ts.length e an pr ac re fn off ln col w (Qbh E (ts.length+1) [] ts) wr) (fun _ wr=>left wr bp)
 case atStart=>exact⟨ts.length+1,[],[],none,0,ts,rfl,by omega,hwf,by omega,by simp,hp,HL0.out,⟨rfl,.inl ⟨rfl,rfl⟩⟩,.nil,.refl _ _⟩
 case round =>
  clear hp;obtain⟨wo,rfl⟩:∃wo:World,wo=wr:=⟨_,rfl⟩
  obtain⟨g,acc,cells,p,cap,vs,hg,hgl,hvw,hvN,haN,hp_wo,hL_wo,hO_wo,hc_wo,hXr⟩:=hrel;have HG:=Hi hg;clear hg;cases g with
  | zero=>omega
  | succ g =>
  obtain⟨u,q,rfl⟩:∃u q,vs=u::q:=by cases vs with | nil=>exact absurd rfl hp_wo.ne | cons u q=>exact⟨u,q,rfl⟩
  have HLF:=Hi hp_wo.left;have hsz_wo:=hXr.size;have hul:0<(u::q).length:=by simp
  have hwa:=hvw.adv;unfold Qa8 at hL_wo
  go_wp2_with fail
  refine(Qa7 hp_wo).mono ?_;rintro e w1⟨rfl,hF⟩;have hc1:=hc_wo.later hF;have hL1:=Bk hF hL_wo;have hO1:=Qaj (S:=fun _=>False) hO_wo (.below hF) (fun _ h=>h.elim);have hs1:=hF.size;have hX1:Ext (·=bp) wo w1:=.below hF;have hp1:=hp_wo.below hF;clear hc_wo hL_wo hO_wo hp_wo;clear hF;cases ht:(u.tx.toList==[119,104,101,110])with
  | true =>
   have hau:(adv (u::q)).length<(u::q).length:=Qax hvw (s:=[119,104,101,110]) ht (by decide)
   go_wp2_with fail
   refine(Qaz hp1).mono ?_;rintro e w2⟨rfl,hp2,hF⟩;have hc2:=hc1.keep hF (fun d hd=>by omega);have hL2:=hF.heap (by omega) hL1;have hO2:=Qaj hO1 hF (fun d hd=>by omega);have hs2:=hF.size;have hX2:=hX1.trans hF;clear hc1 hL1 hO1 hX1 hp1;clear hF
   go_wp2_with fail
   refine(cond_w HE.out HC.out _ _ hp2 hwa (by omega) (by omega)).mono ?_;rintro e w3⟨hF,hr⟩;have hc3:=hc2.keep hF (fun d hd=>by omega);have hL3:=hF.heap (by omega) hL2;have hO3:=Qaj hO2 hF (fun d hd=>by omega);have hs3:=hF.size;have hX3:=hX2.trans hF;clear hc2 hL2 hO2 hX2;clear hF;cases hm:cond E (adv (u::q))with
   | none =>
    rw[hm]at hr;obtain⟨n9,T9,v9,hn9,rfl⟩:=hr;have HR:=Hi (show conds E ts=none by rw[HF.out,←HG.out,Qbh];simp[tx,ht,hm]);clear hm;rcases hn9 with rfl | ⟨T8,v8,rfl⟩
    ·go_wp2
     go_ret;rw[HR.out];exact⟨hXr.trans ((hX3.alloc _).mono (fun d k=>.inl k)),_,v9.to (fun _ h=>Qip h),rfl⟩
    ·go_wp2
     go_ret;rw[HR.out];exact⟨hXr.trans ((hX3.alloc _).mono (fun d k=>.inl k)),_,v9.to (fun _ h=>Qip h),rfl⟩
   | some p2 =>
    obtain⟨x,us⟩:=p2;rw[hm]at hr;obtain⟨T9,v9,rfl,hp9,hx3⟩:=hr;have hsf:=Qdr HE.out hwa hm;have hwu:=hsf.wf hwa;have hl2:=hsf.len;have HG2:=Hi (show Qbh E g (acc++[(true,x)]) us=Qbh E (ts.length+1) [] ts by rw[←HG.out,Qbh];simp[tx,ht,hm]);clear hm hsf
    go_upto_region 6 with(fail)
    obtain⟨w4,hw⟩:∃w4,w3.alloc (.cells #[.iface T9 v9] 299)=w4:=⟨_,rfl⟩
    rw[hw];have hF:Below w3.heap.size w3 w4:=by rw[←hw];exact Qab _ _
    have hB4:w4.heap[w3.heap.size]? =some (.cells #[.iface T9 v9] 299 (0,0)):=by rw[←hw];exact Xa _ _
    have hs4:w3.heap.size+1≤w4.heap.size:=by rw[←hw];simp
    clear hw;have hc4:=hc3.later hF;have hx4:=hx3.later hF;have hL4:=Bk hF hL3;have hO4:=Qaj (S:=fun _=>False) hO3 (.below hF) (fun _ h=>h.elim);have hX4:=hX3.trans (.below hF);have hp4:=hp9.below hF;clear hc3 hx3 hL3 hO3 hX3 hp9;clear hF;have c_hB_0:=Qaa (o:=0) hB4 rfl
    go_wp2_with fail
    refine(QgX hL4 hO4 (by omega) (by omega)).mono ?_;rintro r w5⟨rfl,p7,k7,hP7,hO7,hF⟩;have hst:∀d,(d=pb∨(Value.slice p acc.length cap).ownBlock=some d)→∀(T:TypeId)(c:Array Value)(fr:Nat×Nat),w4.heap[d]? =some (.cells c T fr)→T≠136∧T≠221∧T≠316:=by
     intro d hd T c fr h;rcases hd with rfl | hd
     ·rw[hL4]at h;cases h;decide
     ·obtain⟨_,c',hc'⟩:=Qa5 hO4 hd
      rw[hc']at h;cases h;decide
    have hlo:∀d,(d=pb∨(Value.slice p acc.length cap).ownBlock=some d)→d=pb∨w.heap.size≤d:=fun d hd=>hd.imp id (fun h=>(Qa5 hO4 h).1)
    have hc7:=(hc4.extG hF hst).snoc (k:=true) (hx4.extG hF hst);have hp7:=hp4.ext hF (fun d hd=>by rcases hlo d hd with rfl | h<;>omega);have hX7:=(hXr.trans (hX4.mono (fun d k=>.inl k))).trans' hF (fun d hd=>(hlo d hd).imp .inr id);have HP7:=Hi hP7;clear hP7 hst hlo hF;clear hL4 hO4 hc4 hx4 hB4 hp4 hX4 c_hB_0;go_wp2;go_roundw
    case rel=>exact⟨g,acc++[(true,x)],_,p7,k7,us,HG2.out,by omega,hwu,by omega,by rw[List.length_append];show acc.length+1+_≤_;omega,hp7,by simpa using HP7.out,by simpa using hO7,hc7,hX7⟩
    case measure =>
     rw[hp7.left,HLF.out];omega
  | false =>
   have h_w:=ht;clear ht;cases ht:(u.tx.toList==[117,110,108,101,115,115])with
   | true =>
    have hau:(adv (u::q)).length<(u::q).length:=Qax hvw (s:=[117,110,108,101,115,115]) ht (by decide)
    go_wp2_with fail
    refine(Qaz hp1).mono ?_;rintro e w2⟨rfl,hp2,hF⟩;have hc2:=hc1.keep hF (fun d hd=>by omega);have hL2:=hF.heap (by omega) hL1;have hO2:=Qaj hO1 hF (fun d hd=>by omega);have hs2:=hF.size;have hX2:=hX1.trans hF;clear hc1 hL1 hO1 hX1 hp1;clear hF
    go_wp2_with fail
    refine(cond_w HE.out HC.out _ _ hp2 hwa (by omega) (by omega)).mono ?_;rintro e w3⟨hF,hr⟩;have hc3:=hc2.keep hF (fun d hd=>by omega);have hL3:=hF.heap (by omega) hL2;have hO3:=Qaj hO2 hF (fun d hd=>by omega);have hs3:=hF.size;have hX3:=hX2.trans hF;clear hc2 hL2 hO2 hX2;clear hF;cases hm:cond E (adv (u::q))with
    | none =>
     rw[hm]at hr;obtain⟨n9,T9,v9,hn9,rfl⟩:=hr;have HR:=Hi (show conds E ts=none by rw[HF.out,←HG.out,Qbh];simp[tx,h_w,ht,hm]);clear hm;rcases hn9 with rfl | ⟨T8,v8,rfl⟩
     ·go_wp2
      go_ret;rw[HR.out];exact⟨hXr.trans ((hX3.alloc _).mono (fun d k=>.inl k)),_,v9.to (fun _ h=>Qip h),rfl⟩
     ·go_wp2
      go_ret;rw[HR.out];exact⟨hXr.trans ((hX3.alloc _).mono (fun d k=>.inl k)),_,v9.to (fun _ h=>Qip h),rfl⟩
    | some p2 =>
     obtain⟨x,us⟩:=p2;rw[hm]at hr;obtain⟨T9,v9,rfl,hp9,hx3⟩:=hr;have hsf:=Qdr HE.out hwa hm;have hwu:=hsf.wf hwa;have hl2:=hsf.len;have HG2:=Hi (show Qbh E g (acc++[(false,x)]) us=Qbh E (ts.length+1) [] ts by rw[←HG.out,Qbh];simp[tx,h_w,ht,hm]);clear hm hsf
     go_upto_region 12 with(fail)
     obtain⟨w4,hw⟩:∃w4,w3.alloc (.cells #[.iface T9 v9] 299)=w4:=⟨_,rfl⟩
     rw[hw];have hF:Below w3.heap.size w3 w4:=by rw[←hw];exact Qab _ _
     have hB4:w4.heap[w3.heap.size]? =some (.cells #[.iface T9 v9] 299 (0,0)):=by rw[←hw];exact Xa _ _
     have hs4:w3.heap.size+1≤w4.heap.size:=by rw[←hw];simp
     clear hw;have hc4:=hc3.later hF;have hx4:=hx3.later hF;have hL4:=Bk hF hL3;have hO4:=Qaj (S:=fun _=>False) hO3 (.below hF) (fun _ h=>h.elim);have hX4:=hX3.trans (.below hF);have hp4:=hp9.below hF;clear hc3 hx3 hL3 hO3 hX3 hp9;clear hF;have c_hB_0:=Qaa (o:=0) hB4 rfl
     go_wp2_with fail
     refine(QgY hL4 hO4 (by omega) (by omega)).mono ?_;rintro r w5⟨rfl,p7,k7,hP7,hO7,hF⟩;have hst:∀d,(d=pb∨(Value.slice p acc.length cap).ownBlock=some d)→∀(T:TypeId)(c:Array Value)(fr:Nat×Nat),w4.heap[d]? =some (.cells c T fr)→T≠136∧T≠221∧T≠316:=by
      intro d hd T c fr h;rcases hd with rfl | hd
      ·rw[hL4]at h;cases h;decide
      ·obtain⟨_,c',hc'⟩:=Qa5 hO4 hd
       rw[hc']at h;cases h;decide
     have hlo:∀d,(d=pb∨(Value.slice p acc.length cap).ownBlock=some d)→d=pb∨w.heap.size≤d:=fun d hd=>hd.imp id (fun h=>(Qa5 hO4 h).1)
     have hc7:=(hc4.extG hF hst).snoc (k:=false) (hx4.extG hF hst);have hp7:=hp4.ext hF (fun d hd=>by rcases hlo d hd with rfl | h<;>omega);have hX7:=(hXr.trans (hX4.mono (fun d k=>.inl k))).trans' hF (fun d hd=>(hlo d hd).imp .inr id);have HP7:=Hi hP7;clear hP7 hst hlo hF;clear hL4 hO4 hc4 hx4 hB4 hp4 hX4 c_hB_0;go_wp2;go_roundw
     case rel=>exact⟨g,acc++[(false,x)],_,p7,k7,us,HG2.out,by omega,hwu,by omega,by rw[List.length_append];show acc.length+1+_≤_;omega,hp7,by simpa using HP7.out,by simpa using hO7,hc7,hX7⟩
     case measure =>
      rw[hp7.left,HLF.out];omega
   | false =>
    have HR:=Hi (show conds E ts=some (acc,u::q)by rw[HF.out,←HG.out,Qbh];simp[tx,h_w,ht]);have HP:=Hi hL1;clear hL1;go_wp2;go_ret;rw[HR.out];exact⟨hXr.trans (hX1.mono (fun d k=>.inl k)),rfl,hp1,p,cap,cells,HP.out,hO1,hc1⟩
theorem sl91:SlT prog 91 133 (.agg #[.string ⟨#[]⟩,.string ⟨#[]⟩]) 2 32:=⟨by kernel_rfl,⟨Tryz.t133,by kernel_rfl,by kernel_rfl,by kernel_rfl,by kernel_rfl⟩,rfl,by decide⟩
theorem n192_c(s t:ByteArray)(w:World):Calls prog 192 #[.string s,.string t] w fun e w'=>e=.returned (.agg #[.string s,.string t])∧Below w.heap.size w w':=by
 go_enter func192,ntmps192;go_wp2;exact bodyPost_ret (Qao (a:=4) (t:=133) (by kernel_rfl) _ ⟨w.heap.size,0,none⟩ rfl _ _ (QeP _ _ _ _ _ (by kernel_rfl) (by kernel_rfl) (Qaa (o:=0) (Xa w _) rfl) (Qaa (o:=1) (Xa w _) rfl))) rfl ⟨rfl,Qab w _⟩
def Fresh(l:List (ByteArray×ByteArray))(k:ByteArray):Prop:=(l.any fun p=>p.1.toList==k.toList)=false
theorem Fresh.at{l:List (ByteArray×ByteArray)}{k:ByteArray}(h:Fresh l k){i:Nat}(hi:i<l.length):((l.getD i (⟨#[]⟩,⟨#[]⟩)).1.toList==k.toList)=false:=by
 unfold Fresh at h;rw[List.any_eq_false]at h;have:=h l[i] (by simp);simpa [List.getD,hi]using this
def AnRel(w:World)(n:Nat)(s:Value)(wr:World):Prop:=∃i:Nat,s=.int .i64 (i:Int)∧i≤n∧Below w.heap.size w wr
theorem addAnn_c{w:World}{B:Nat}{s:Value}{l:List (ByteArray×ByteArray)}{k v:ByteArray}(ho:w.ownsRow B 133 2 s l.length (Qav l))(hf:Fresh l k)(hl:l.length≤1000000)(hB:B≤w.heap.size) :
  Calls prog 172 #[s,.string k,.string v] w fun e w'=>∃s',e=.returned s'∧w'.ownsRow B 133 2 s' (l.length+1) (Qav (l++[(k,v)]))∧Ext (fun d=>s.ownBlock=some d) w w':=by
 obtain⟨n,hn⟩:∃n,n=l.length:=⟨_,rfl⟩
 obtain⟨p,cap,rfl,hrow⟩:∃p cap,s=.slice p n cap∧(n=0∨∃g c,p=some ⟨g,0,none⟩∧w.heap[g]? =some (.cells c 133 (0,0))∧n≤cap∧∀i,i<n*2→c[i]? =(Qav l)[i]?):=by
  rcases Qc6 ho with⟨h1,h2⟩ | ⟨g,cap,c,h1,_,h2,h3,_,h4⟩
  ·exact⟨none,0,by rw[h2,hn,h1],.inl (by omega)⟩
  ·exact⟨_,cap,by rw[hn];exact h1,.inr ⟨g,c,rfl,h2,by omega,by rw[hn];exact h4⟩⟩
 rw[←hn]at ho;have hln:n≤1000000:=by omega
 have HO:=Hi ho;have HN:=Hi hn;rw[←hn];clear ho hn hl;go_enter func172,ntmps172
 go_upto_region 2 with(fail)
 go_loopw [11] (fun s wr=>AnRel w n s wr) (fun s _=>(n-intOf s).toNat)
 case atStart=>exact⟨0,rfl,by omega,.refl _ _⟩
 case round =>
  obtain⟨wo,rfl⟩:∃wo:World,wo=wr:=⟨_,rfl⟩
  obtain⟨i,rfl,hi,hbl⟩:=hrel;have hso:=hbl.size;by_cases hin:i<n
  ·obtain⟨g,c,rfl,hg,hcap,hcc⟩:=hrow.resolve_left (by omega)
   obtain⟨h0,h1⟩:=Qcd l i (by rw[←HN.out];exact hin);have hfr:=hf.at (i:=i) (by rw[←HN.out];exact hin);obtain⟨ki,hki⟩:∃ki,(l.getD i (⟨#[]⟩,⟨#[]⟩)).1=ki:=⟨_,rfl⟩
   obtain⟨vi,hvi⟩:∃vi,(l.getD i (⟨#[]⟩,⟨#[]⟩)).2=vi:=⟨_,rfl⟩
   rw[hki]at h0 hfr;rw[hvi]at h1;have hlg:=Qad hg;have q0:wo.cell? ⟨g,i*2,none⟩=some (.string ki):=Qaa ((hbl.block _ hlg).trans hg) ((hcc _ (by omega)).trans h0);have q1:wo.cell? ⟨g,i*2+1,none⟩=some (.string vi):=Qaa ((hbl.block _ hlg).trans hg) ((hcc _ (by omega)).trans h1);clear hrow hcc h0 h1 hg hki hvi
   go_upto_region 4 with(fail)
   obtain⟨w2,hw⟩:∃w2,wo.alloc (.cells #[.string ki,.string vi] 133)=w2:=⟨_,rfl⟩
   rw[hw];have hx:w2.cell? ⟨wo.heap.size,0,none⟩=some (.string ki):=by rw[←hw];exact Qaa (Xa _ _) rfl
   have hbl2:Below w.heap.size w w2:=by rw[←hw];exact hbl.alloc (by omega) _
   clear hw q0 q1 hbl;go_wp2;go_roundw
   case rel=>exact⟨i+1,rfl,by omega,hbl2⟩
   case measure=>simp[intOf];omega
  ·obtain rfl:i=n:=by omega
   clear hrow
   go_wp2_with fail
   refine(n192_c _ _ _).mono ?_;rintro e w2⟨rfl,hb2⟩;have hb:Below w.heap.size w w2:=hbl.trans (hb2.mono hso);have ho2:=Qaj (S:=fun _=>False) HO.out (.below hb) (fun _ k=>k.elim);have n0:∀j u,[Value.string k,Value.string v][j]? =some u→(w2.alloc (.cells #[.string k,.string v] 133)).cell? ⟨w2.heap.size,j,none⟩=some u:=by
    intro j u hj;exact Qaa (Xa _ _) (by simpa using hj)
   have ho3:=Qaj (S:=fun _=>False) ho2 (.below (Qab _ (.cells #[.string k,.string v] 133))) (fun _ h=>h.elim);have hX3:Ext (fun d=>(Value.slice p i cap).ownBlock=some d) w (w2.alloc (.cells #[.string k,.string v] 133)):=(Ext.below hb).alloc _;have hs2:=hb.size;clear hbl hb2 ho2
   go_wp2_with(at_builtin;refine appG sl91 rfl _ _ rfl B _ _ _ rfl ho3 _ [.string k,.string v] rfl rfl n0 (fun v hv=>by simp at hv;rcases hv with rfl | rfl<;>rfl) (by unfold maxLen;omega) (by omega) (by simp;omega) ?_)
   intro v9 w9 hO9 hg9 _;have hX9:=hX3.trans (QaF ho3 hg9);rw[←Qbm]at hO9;clear ho3 hX3 n0 hg9;go_wp2;go_ret;exact⟨_,rfl,hO9,hX9⟩
theorem ann_c{w:World}{B ab:Nat}{s:Value}{l:List (ByteArray×ByteArray)}{k v:ByteArray}(ha:w.heap[ab]? =some (.cells #[s] 223 (0,0)))(ho:w.ownsRow B 133 2 s l.length (Qav l))(hf:Fresh l k)(hl:l.length≤1000000)(hB:B≤w.heap.size) :
  Calls prog 139 #[.pointer (some ⟨ab,0,none⟩),.string k,.string v] w fun e w'=>e=.returned (.pointer (some ⟨ab,0,none⟩))∧∃s',w'.heap[ab]? =some (.cells #[s'] 223 (0,0))∧w'.ownsRow B 133 2 s' (l.length+1) (Qav (l++[(k,v)]))∧Ext (fun d=>d=ab∨s.ownBlock=some d) w w':=by
 have c0:w.cell? ⟨ab,0,none⟩=some s:=Qaa ha rfl;obtain⟨p,cap,hs⟩:=QbT ho;have hab:s.ownBlock≠some ab:=fun h=>by obtain⟨_,c,hc⟩:=Qa5 ho h;rw[ha]at hc;cases hc
 have HA:=Hi (Xc ha (Xc ho hab));clear ha ho hab;subst hs;go_enter func139,ntmps139
 go_wp2_with fail
 refine(addAnn_c (v:=v) HA.out.2.1 hf hl hB).mono ?_;rintro e w1⟨s',rfl,hO,hX⟩;obtain⟨p1,cap1,rfl⟩:=QbT hO;have h1:=hX.heap HA.out.2.2 HA.out.1;have c1:=Qaa (o:=0) h1 rfl;have f1:=Qae h1 0;have H:=Hi (Xc h1 (Xc (Qdo (o:=0) hO h1 (by decide) (.slice p1 (l.length+1) cap1)) ((hX.mono (fun d k=>Or.inr (a:=d=ab) k)).set (p:=⟨ab,0,none⟩) (.inl (.inl rfl)) (.slice p1 (l.length+1) cap1))));clear h1 hX hO c0
 go_wp2;go_ret;exact⟨rfl,_,Qac (o:=0) H.out.1 _,H.out.2.1,H.out.2.2⟩
def allV:Value:=.iface 344 (.agg #[])
def MadeP(b:Bool)(s:Value)(w:World)(e:Ending)(w':World):Prop :=
 ∃pb,e=.returned (.pointer (some ⟨pb,0,none⟩))∧w.heap.size≤pb∧Qa8 w' pb (.bool b) s allV allV allV (.slice none 0 0) (.string ⟨#[]⟩) (.int .i64 0) (.int .i64 0) (.int .i64 0)∧Below w.heap.size w w'
theorem Qfz(b:Bool)(p:Option Addr)(n c:Nat)(w:World):Calls prog 140 #[.bool b,.slice p n c] w (MadeP b (.slice p n c) w):=by
 go_enter func140,ntmps140
 go_wp2_with fail
 refine(Qfa _).mono ?_;rintro e w1⟨rfl,hb1⟩
 go_wp2_with fail
 refine(Qfa _).mono ?_;rintro e w2⟨rfl,hb2⟩;have hb12:Below w.heap.size w w2:=hb1.trans (hb2.mono hb1.size);clear hb1 hb2
 go_wp2_with fail
 refine(Qfa _).mono ?_;rintro e w3⟨rfl,hb3⟩;have hb13:Below w.heap.size w w3:=hb12.trans (hb3.mono hb12.size);have hs:=hb13.size;clear hb12 hb3;go_wp2;go_ret;exact⟨_,rfl,hs,Xa _ _,hb13.alloc hs _⟩
theorem permit_c{w:World}{ab n c:Nat}{p:Option Addr}(ha:w.heap[ab]? =some (.cells #[.slice p n c] 223 (0,0))):Calls prog 93 #[.pointer (some ⟨ab,0,none⟩)] w (MadeP true (.slice p n c) w):=by
 have c0:w.cell? ⟨ab,0,none⟩=some (.slice p n c):=Qaa ha rfl;clear ha;go_enter func93,ntmps93
 go_wp2_with fail
 refine(Qfz _ _ _ _ _).mono ?_;rintro e w1⟨pb,rfl,h1,h2,h3⟩;have H:=Hi (Xc h1 (Xc h2 h3));clear h1 h2 h3;go_wp2;go_ret;exact⟨pb,rfl,H.out.1,H.out.2.1,H.out.2.2⟩
theorem forbid_c{w:World}{ab n c:Nat}{p:Option Addr}(ha:w.heap[ab]? =some (.cells #[.slice p n c] 223 (0,0))):Calls prog 94 #[.pointer (some ⟨ab,0,none⟩)] w (MadeP false (.slice p n c) w):=by
 have c0:w.cell? ⟨ab,0,none⟩=some (.slice p n c):=Qaa ha rfl;clear ha;go_enter func94,ntmps94
 go_wp2_with fail
 refine(Qfz _ _ _ _ _).mono ?_;rintro e w1⟨pb,rfl,h1,h2,h3⟩;have H:=Hi (Xc h1 (Xc h2 h3));clear h1 h2 h3;go_wp2;go_ret;exact⟨pb,rfl,H.out.1,H.out.2.1,H.out.2.2⟩
end Go.Proofs.Pg
