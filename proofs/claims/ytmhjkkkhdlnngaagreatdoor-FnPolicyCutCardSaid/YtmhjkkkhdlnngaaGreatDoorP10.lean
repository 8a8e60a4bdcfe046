/- FnPolicyCut, part 10. -/
import Derived.Test.YtmhjkkkhdlnngaaGreatDoorP08
import Derived.Laws.AppendOwn
import Derived.Deep.OwnRows
import Derived.Carry
set_option linter.all false
set_option maxRecDepth 100000
set_option maxHeartbeats 0
namespace Go.Proofs.Pg
open Go.RowKit Go.Proofs.Tryz
attribute [local go_sem] Oper.semAt_some
theorem is_w{L:Lex}{E:Toks→Option (Ex×Toks)}{bp base N:Nat}(hE:Sh E)(hA:FnC 217 (add L E) bp base N):FnL 220 (is L E) bp base N:=by
 intro w ts T v x hp hwf hN hbs hx_w;have hbb:=hp.hbp;have HA:=Hi hA;have HE:=Hi hE;clear hA hE;go_enter func220,ntmps220
 go_upto_region 1 with(fail)
 obtain⟨w1,hw⟩:∃w1,((w.alloc (.cells #[.iface T v] 299)).alloc (.cells #[.nilIface] 299))=w1:=⟨_,rfl⟩
 rw[hw];have hF:Below w.heap.size w w1:=by rw[←hw];exact(Qab w _).alloc (by simp) _
 have hL1:w1.heap[w.heap.size]? =some (.cells #[.iface T v] 299 (0,0)):=by rw[←hw];exact Qaf (Qah (by simp) _) _
 have hR1:w1.heap[w.heap.size+1]? =some (.cells #[.nilIface] 299 (0,0)):=by rw[←hw];exact Qah (by simp) _
 have hs1:w.heap.size+2≤w1.heap.size:=by rw[←hw];simp
 clear hw;have hx1:=hx_w.later hF;have hX1:Ext (·=bp) w w1:=.below hF;have hp1:=hp.below hF;clear hx_w hp;clear hF
 go_wp2_with fail
 refine(Qg7 _ ts hp1 hwf (by omega)).mono ?_;rintro e w2⟨hF,hr⟩;have hx2:=hx1.keep hF (fun d hd=>by omega);have hL2:=hF.heap (by omega) hL1;have hR2:=hF.heap (by omega) hR1;have hs2:=hF.size;have hX2:=hX1.trans hF;clear hx1 hL1 hR1 hX1;clear hF;cases hm:path ts with
 | none =>
  rw[hm]at hr;obtain⟨s,T2,v2,rfl⟩:=hr;have c_hR_0:=Qaa (o:=0) hR2 rfl;have f_hR:=Qae hR2 0;have lt_hR:=Qad hR2;have HR:=Hi (show is L E x ts=none by unfold Pg.is;rw[hm]);have HB:=Hi hR2;clear hR2;go_wp2;refine Qai (R:=w.heap.size+1) _ 4 5 (by kernel_rfl) rfl rfl rfl (Qac (o:=0) HB.out _) ?_;exact(Qak HR.out (hX2.set (p:=⟨w.heap.size+1,0,none⟩) (.inr (show _≤w.heap.size+1 by omega)) _))
 | some p0 =>
  obtain⟨s,us⟩:=p0;rw[hm]at hr;obtain⟨rfl,hp0,hz⟩:=hr;have hsh:=QcR _ _ _ hwf hm;have hwu:=hsh.1.wf hwf;have HM:=Hi hm;clear hm;obtain⟨t,r,rfl⟩:∃t r,us=t::r:=by cases us with | nil=>exact absurd rfl hp0.ne | cons t r=>exact⟨t,r,rfl⟩
  go_wp2_with fail
  refine(Qa7 hp0).mono ?_;rintro e w3⟨rfl,hF⟩;have hx3:=hx2.later hF;have hL3:=Bk hF hL2;have hR3:=Bk hF hR2;have hs3:=hF.size;have hX3:=hX2.trans (.below hF);have hp3:=hp0.below hF;clear hx2 hL2 hR2 hX2 hp0;clear hF;cases ht:(t.tx.toList==[105,110])with
  | false =>
   have c_hL_0:=Qaa (o:=0) hL3 rfl;have lt_hL:=Qad hL3;have lt_hR:=Qad hR3
   go_wp2_with fail
   refine(n238_c _ _ _ _).mono ?_;rintro e w4⟨rfl,hF⟩;have hx4:=hx3.later hF;have hL4:=Bk hF hL3;have hR4:=Bk hF hR3;have hs4:=hF.size;have hX4:=hX3.trans (.below hF);have hp4:=hp3.below hF;clear hx3 hL3 hR3 hX3 hp3 c_hL_0 lt_hL lt_hR;clear hF;have c_hR_0:=Qaa (o:=0) hR4 rfl;have f_hR:=Qae hR4 0;have lt_hR:=Qad hR4;have HR:=Hi (show is L E x ts=some (.sop 202 x s,t::r)by unfold Pg.is;rw[HM.out];simp[tx,ht])
   have HB:=Hi hR4;clear hR4;go_wp2;refine Qai (R:=w.heap.size+1) _ 4 5 (by kernel_rfl) rfl rfl rfl (Qac (o:=0) HB.out _) ?_;exact(Qal HR.out (hX4.set (p:=⟨w.heap.size+1,0,none⟩) (.inr (show _≤w.heap.size+1 by omega)) _) (hp4.set (o:=0) (by omega) _) (NodeIs.store (o:=0) (.sop 202 _ _ _ hx4) HB.out (by decide) _))
  | true =>
   have hav:(adv (t::r)).length<(t::r).length:=Qax hwu (s:=[105,110]) ht (by decide)
   go_wp2_with fail
   refine(Qaz hp3).mono ?_;rintro e w4⟨rfl,hp4,hF⟩;have hx4:=hx3.keep hF (fun d hd=>by omega);have hL4:=hF.heap (by omega) hL3;have hR4:=hF.heap (by omega) hR3;have hs4:=hF.size;have hX4:=hX3.trans hF;clear hx3 hL3 hR3 hX3 hp3;clear hF
   go_wp2_with fail
   refine(HA.out _ _ hp4 hwu.adv (by omega) (by omega)).mono ?_;rintro e w5⟨hF,hr⟩;have hx5:=hx4.keep hF (fun d hd=>by omega);have hL5:=hF.heap (by omega) hL4;have hR5:=hF.heap (by omega) hR4;have hs5:=hF.size;have hX5:=hX4.trans hF;clear hx4 hL4 hR4 hX4;clear hF;cases hm2:add L E (adv (t::r))with
   | none =>
    rw[hm2]at hr;obtain⟨T2,v2,rfl⟩:=hr;have c_hR_0:=Qaa (o:=0) hR5 rfl;have f_hR:∀o,(w5.alloc o).frozen? ⟨w.heap.size+1,0,none⟩=false:=fun o=>Qae (Qaf hR5 o) 0
    have lt_hR:=Qad hR5;have HR:=Hi (show is L E x ts=none by unfold Pg.is;rw[HM.out];simp[tx,ht,hm2]);have HB:=Hi hR5;clear hR5;go_wp2;refine Qai (R:=w.heap.size+1) _ 4 5 (by kernel_rfl) rfl rfl rfl (Qaf (Qac (o:=0) HB.out _) _) ?_;exact(Qak HR.out ((hX5.set (p:=⟨w.heap.size+1,0,none⟩) (.inr (show _≤w.heap.size+1 by omega)) _).alloc _))
   | some p2 =>
    obtain⟨z,zs⟩:=p2;rw[hm2]at hr;obtain⟨T2,v2,rfl,hp2,hz5⟩:=hr;have HM2:=Hi hm2;clear hm2;have c_hL_0:=Qaa (o:=0) hL5 rfl;have lt_hL:=Qad hL5;have lt_hR:=Qad hR5
    go_wp2_with fail
    have hb0:=Qab w5 (.cells #[.iface T2 v2] 299);refine(n237_c _ _ _ _ _ _).mono ?_;rintro e w6⟨rfl,hF0⟩;have hF:=hb0.trans (hF0.mono hb0.size);clear hF0 hb0;have hx6:=hx5.later hF;have hz6:=hz5.later hF;have hL6:=Bk hF hL5;have hR6:=Bk hF hR5;have hs6:=hF.size;have hX6:=hX5.trans (.below hF);have hp6:=hp2.below hF;clear hx5 hz5 hL5 hR5 hX5 hp2 c_hL_0 lt_hL lt_hR;clear hF;have c_hR_0:=Qaa (o:=0) hR6 rfl
    have f_hR:=Qae hR6 0;have lt_hR:=Qad hR6;have HR:=Hi (show is L E x ts=some (.isIn x s z,zs)by unfold Pg.is;rw[HM.out];simp[tx,ht,HM2.out]);have HB:=Hi hR6;clear hR6;go_wp2;refine Qai (R:=w.heap.size+1) _ 4 5 (by kernel_rfl) rfl rfl rfl (Qac (o:=0) HB.out _) ?_;exact(Qal HR.out (hX6.set (p:=⟨w.heap.size+1,0,none⟩) (.inr (show _≤w.heap.size+1 by omega)) _) (hp6.set (o:=0) (by omega) _) (NodeIs.store (o:=0) (.isIn _ _ _ _ _ hx6 hz6) HB.out (by decide) _))
def StrV(base:Nat)(w:World)(r:Option ByteArray)(e:Ending)(w':World):Prop :=
 Below w.heap.size w w'∧match r with
 | none=>∃s T,∃v:EVal base w' T,e=.returned (.tuple #[.string s,.iface T v.1])
 | some s=>e=.returned (.tuple #[.string s,.nilIface])∧s.size≤1000000
def IntV(base:Nat)(w:World)(r:Option Int)(e:Ending)(w':World):Prop :=
 Below w.heap.size w w'∧match r with
 | none=>∃n T,∃v:EVal base w' T,e=.returned (.tuple #[.int .i64 n,.iface T v.1])
 | some n=>e=.returned (.tuple #[.int .i64 n,.nilIface])
def PatV(base:Nat)(w:World)(r:Option (List (Bool×ByteArray)))(e:Ending)(w':World):Prop :=
 Below w.heap.size w w'∧match r with
 | none=>∃p n c T,∃v:EVal base w' T,e=.returned (.tuple #[.agg #[.slice p n c],.iface T v.1])
 | some l=>∃p c,e=.returned (.tuple #[.agg #[.slice p l.length c],.nilIface])∧Row2At w' base 316 p l.length (fun i=>.bool (l.getD i (false,⟨#[]⟩)).1) (fun i=>.string (l.getD i (false,⟨#[]⟩)).2)
def Qdn(s:ByteArray):ByteArray:=⟨(Lib.trimSuffix (Lib.trimPrefix s.data.toList [34]) [34]).toArray⟩
structure LexC(L:Lex):Prop where
 str:∀{base:Nat}(t:Tok)(w:World),Glob w→15≤w.heap.size→t.tx.size≤1000000→base≤w.heap.size→Calls prog 138 #[t.val] w (StrV base w (L.str t.tx))
 int:∀{base:Nat}(s:ByteArray)(w:World),Glob w→15≤w.heap.size→s.size≤1000001→base≤w.heap.size→Calls prog 246 #[.string s,.int .i64 10,.int .i64 64] w (IntV base w (L.int s))
 pat:∀(base:Nat)(s:ByteArray)(w:World),Glob w→15≤w.heap.size→base≤w.heap.size→s.size≤1000000→Calls prog 235 #[.string (Qdn s)] w (PatV base w (L.pat s))
def HasRel(bp base N R A C:Nat)(w:World)(Rm:Option (Ex×Toks))(wr:World):Prop :=
 ∃g y c vs T v T2 v2,hasL g y c vs=Rm∧vs.length<g∧Wf vs∧vs.length≤N∧PS wr bp base vs∧NodeIs wr base (.iface T v) y∧NodeIs wr base (.iface T2 v2) c∧wr.heap[A]? =some (.cells #[.iface T v] 299 (0,0))∧wr.heap[C]? =some (.cells #[.iface T2 v2] 299 (0,0))∧wr.heap[R]? =some (.cells #[.nilIface] 299 (0,0))∧Ext (·=bp) w wr
theorem has_w{L:Lex}(hL:LexC L){bp base N:Nat}:FnL 218 (has L) bp base N:=by
 intro w ts T v x hp hwf hN hbs hx_w;have hbb:=hp.hbp;have h15:=hp.h15;obtain⟨t,r,rfl⟩:∃t r,ts=t::r:=by cases ts with | nil=>exact absurd rfl hp.ne | cons t r=>exact⟨t,r,rfl⟩
 have hav:=(Qam hwf).len;have htz:=hp.sz;go_enter func218,ntmps218
 go_upto_region 1 with(fail)
 obtain⟨w1,hw⟩:∃w1,((w.alloc (.cells #[.iface T v] 299)).alloc (.cells #[.nilIface] 299))=w1:=⟨_,rfl⟩
 rw[hw];have hF:Below w.heap.size w w1:=by rw[←hw];exact(Qab w _).alloc (by simp) _
 have hL1:w1.heap[w.heap.size]? =some (.cells #[.iface T v] 299 (0,0)):=by rw[←hw];exact Qaf (Qah (by simp) _) _
 have hR1:w1.heap[w.heap.size+1]? =some (.cells #[.nilIface] 299 (0,0)):=by rw[←hw];exact Qah (by simp) _
 have hs1:w.heap.size+2≤w1.heap.size:=by rw[←hw];simp
 clear hw;have hx1:=hx_w.later hF;have hX1:Ext (·=bp) w w1:=.below hF;have hp1:=hp.below hF;clear hx_w hp;clear hF
 go_wp2_with fail
 refine(Qaz hp1).mono ?_;rintro e w2⟨rfl,hp2,hF⟩;have hx2:=hx1.keep hF (fun d hd=>by omega);have hL2:=hF.heap (by omega) hL1;have hR2:=hF.heap (by omega) hR1;have hs2:=hF.size;have hX2:=hX1.trans hF;clear hx1 hL1 hR1 hX1 hp1;clear hF
 go_upto_region 2 with(fail)
 obtain⟨w3,hw⟩:∃w3,w2.alloc (.cells t.row 122)=w3:=⟨_,rfl⟩
 rw[hw];have hF:Below w2.heap.size w2 w3:=by rw[←hw];exact Qab _ _
 have hT3:w3.heap[w2.heap.size]? =some (.cells t.row 122 (0,0)):=by rw[←hw];exact Xa _ _
 have hs3:w2.heap.size+1≤w3.heap.size:=by rw[←hw];simp
 clear hw;have hx3:=hx2.later hF;have hL3:=Bk hF hL2;have hR3:=Bk hF hR2;have hX3:=hX2.trans (.below hF);have hp3:=hp2.below hF;clear hx2 hL2 hR2 hX2 hp2;clear hF;obtain⟨c_hT_0,c_hT_1,c_hT_2,c_hT_3,c_hT_4,c_hT_5⟩:=Cl6 hT3 rfl rfl rfl rfl rfl rfl
 go_wp2_with fail
 refine(Qbd t _).mono ?_;rintro e w4⟨rfl,hF⟩;have hx4:=hx3.later hF;have hL4:=Bk hF hL3;have hR4:=Bk hF hR3;have hT4:=Bk hF hT3;have hs4:=hF.size;have hX4:=hX3.trans (.below hF);have hp4:=hp3.below hF;clear hx3 hL3 hR3 hT3 hX3 hp3 c_hT_0 c_hT_1 c_hT_2 c_hT_3 c_hT_4 c_hT_5;clear hF;cases hi:(t.ty==1)with
 | true =>
  have c_hT_5:=Qaa (o:=5) hT4 rfl;have c_hL_0:=Qaa (o:=0) hL4 rfl
  go_wp2_with fail
  refine(Qgy _ _ _ _).mono ?_;rintro e w5⟨rfl,hF⟩;have hx5:=hx4.later hF;have hL5:=Bk hF hL4;have hR5:=Bk hF hR4;have hT5:=Bk hF hT4;have hs5:=hF.size;have hX5:=hX4.trans (.below hF);have hp5:=hp4.below hF;clear hx4 hL4 hR4 hT4 hX4 hp4 c_hT_5 c_hL_0;clear hF
  go_upto_region 5 with(fail)
  obtain⟨w6,hw⟩:∃w6,w5.alloc (.cells #[.iface 193 (.agg #[.iface T v,.string t.tx])] 299)=w6:=⟨_,rfl⟩
  rw[hw];have hF:Below w5.heap.size w5 w6:=by rw[←hw];exact Qab _ _
  have hA6:w6.heap[w5.heap.size]? =some (.cells #[.iface 193 (.agg #[.iface T v,.string t.tx])] 299 (0,0)):=by rw[←hw];exact Xa _ _
  have hs6:w5.heap.size+1≤w6.heap.size:=by rw[←hw];simp
  clear hw;have hx6:=hx5.later hF;have hL6:=Bk hF hL5;have hR6:=Bk hF hR5;have hT6:=Bk hF hT5;have hX6:=hX5.trans (.below hF);have hp6:=hp5.below hF;clear hx5 hL5 hR5 hT5 hX5 hp5;clear hF;have c_hL_0:=Qaa (o:=0) hL6 rfl
  go_wp2_with fail
  refine(Qft _ _ _ _).mono ?_;rintro e w7⟨rfl,hF⟩;have hx7:=hx6.later hF;have hL7:=Bk hF hL6;have hR7:=Bk hF hR6;have hT7:=Bk hF hT6;have hA7:=Bk hF hA6;have hs7:=hF.size;have hX7:=hX6.trans (.below hF);have hp7:=hp6.below hF;clear hx6 hL6 hR6 hT6 hA6 hX6 hp6 c_hL_0;clear hF
  go_upto_region 6 with(fail)
  obtain⟨w8,hw⟩:∃w8,w7.alloc (.cells #[.iface 194 (.agg #[.iface T v,.string t.tx])] 299)=w8:=⟨_,rfl⟩
  rw[hw];have hF:Below w7.heap.size w7 w8:=by rw[←hw];exact Qab _ _
  have hC8:w8.heap[w7.heap.size]? =some (.cells #[.iface 194 (.agg #[.iface T v,.string t.tx])] 299 (0,0)):=by rw[←hw];exact Xa _ _
  have hs8:w7.heap.size+1≤w8.heap.size:=by rw[←hw];simp
  clear hw;have hx8:=hx7.later hF;have hL8:=Bk hF hL7;have hR8:=Bk hF hR7;have hT8:=Bk hF hT7;have hA8:=Bk hF hA7;have hX8:=hX7.trans (.below hF);have hp8:=hp7.below hF;clear hx7 hL7 hR7 hT7 hA7 hX7 hp7;clear hF;have hfin:has L x (t::r)=hasL ((t::r).length+1) (.sop 193 x t.tx) (.sop 194 x t.tx) (adv (t::r)):=by unfold Pg.has;simp[ty,hd,hi]
  have HF:=Hi hfin;clear hfin;have hnA:NodeIs w8 base (.iface 193 (.agg #[.iface T v,.string t.tx])) (.sop 193 x t.tx):=.sop 193 _ _ _ hx8;have hnC:NodeIs w8 base (.iface 194 (.agg #[.iface T v,.string t.tx])) (.sop 194 x t.tx):=.sop 194 _ _ _ hx8
  go_loopw [28] (fun _ wr=>HasRel bp base (t::r).length (w.heap.size+1) (w5.heap.size) (w7.heap.size) w (hasL ((t::r).length+1) (.sop 193 x t.tx) (.sop 194 x t.tx) (adv (t::r))) wr) (fun _ wr=>left wr bp)
  case atStart=>exact⟨_,_,_,_,_,_,_,_,rfl,by omega,hwf.adv,hav,hp8,hnA,hnC,hA8,hC8,hR8,hX8⟩
  case round =>
   clear hx8 hL8 hR8 hT8 hA8 hC8 hp8 hX8 hnA hnC;obtain⟨wo,rfl⟩:∃wo:World,wo=wr:=⟨_,rfl⟩
   obtain⟨g,y,c,vs,Ty,vy,Tc,vc,hg,hgl,hvw,hvN,hp_wo,hy_wo,hc_wo,hA_wo,hC_wo,hR_wo,hX_wo⟩:=hrel;have HG:=Hi hg;clear hg;cases g with
   | zero=>omega
   | succ g =>
   obtain⟨u,q,rfl⟩:∃u q,vs=u::q:=by cases vs with | nil=>exact absurd rfl hp_wo.ne | cons u q=>exact⟨u,q,rfl⟩
   have HLF:=Hi hp_wo.left;have hsz_wo:=hX_wo.size;have ltA:=Qad hA_wo;have ltC:=Qad hC_wo;have ltR:=Qad hR_wo
   go_wp2_with fail
   refine(Qa7 hp_wo).mono ?_;rintro e w9⟨rfl,hF⟩;have hy9:=hy_wo.later hF;have hc9:=hc_wo.later hF;have hR9:=Bk hF hR_wo;have hA9:=Bk hF hA_wo;have hC9:=Bk hF hC_wo;have hs9:=hF.size;have hX9:=hX_wo.trans (.below hF);have hp9:=hp_wo.below hF;clear hy_wo hc_wo hR_wo hA_wo hC_wo hX_wo hp_wo;clear hF;cases ht:(u.tx.toList==[46])with
   | false =>
    have c_hA_0:=Qaa (o:=0) hA9 rfl;have lt_hA:=Qad hA9;have c_hR_0:=Qaa (o:=0) hR9 rfl;have f_hR:=Qae hR9 0;have lt_hR:=Qad hR9;have HR:=Hi (show has L x (t::r)=some (y,u::q)by rw[HF.out,←HG.out,hasL];simp[tx,ht]);have HB:=Hi hR9;clear hR9;go_wp2;refine Qai (R:=w.heap.size+1) _ 4 5 (by kernel_rfl) rfl rfl rfl (Qac (o:=0) HB.out _) ?_;exact(Qal HR.out (hX9.set (p:=⟨w.heap.size+1,0,none⟩) (.inr (show _≤w.heap.size+1 by omega)) _) (hp9.set (o:=0) (by omega) _) (NodeIs.store (o:=0) (hy9) HB.out (by decide) _))
   | true =>
    have hau:(adv (u::q)).length<(u::q).length:=Qax hvw (s:=[46]) ht (by decide)
    go_wp2_with fail
    refine(Qaz hp9).mono ?_;rintro e w10⟨rfl,hp10,hF⟩;have hy10:=hy9.keep hF (fun d hd=>by omega);have hc10:=hc9.keep hF (fun d hd=>by omega);have hR10:=hF.heap (by omega) hR9;have hA10:=hF.heap (by omega) hA9;have hC10:=hF.heap (by omega) hC9;have hs10:=hF.size;have hX10:=hX9.trans hF;clear hy9 hc9 hR9 hA9 hC9 hX9 hp9;clear hF;obtain⟨a,b,hab⟩:∃a b,adv (u::q)=a::b:=by cases h:adv (u::q)with | nil=>exact absurd h hvw.adv.ne | cons a b=>exact⟨a,b,rfl⟩
    rw[hab]at hp10 hau;have hwa:Wf (a::b):=hab▸hvw.adv;have haz:=hp10.sz;have hbb2:=(Qam hwa).len;have HU:=Hi hab;clear hab
    go_wp2_with fail
    refine(Qaz hp10).mono ?_;rintro e w11⟨rfl,hp11,hF⟩;have hy11:=hy10.keep hF (fun d hd=>by omega);have hc11:=hc10.keep hF (fun d hd=>by omega);have hR11:=hF.heap (by omega) hR10;have hA11:=hF.heap (by omega) hA10;have hC11:=hF.heap (by omega) hC10;have hs11:=hF.size;have hX11:=hX10.trans hF;clear hy10 hc10 hR10 hA10 hC10 hX10 hp10;clear hF
    go_upto_region 9 with(fail)
    obtain⟨w12,hw⟩:∃w12,w11.alloc (.cells a.row 122)=w12:=⟨_,rfl⟩
    rw[hw];have hF:Below w11.heap.size w11 w12:=by rw[←hw];exact Qab _ _
    have hT12:w12.heap[w11.heap.size]? =some (.cells a.row 122 (0,0)):=by rw[←hw];exact Xa _ _
    have hs12:w11.heap.size+1≤w12.heap.size:=by rw[←hw];simp
    clear hw;have hy12:=hy11.later hF;have hc12:=hc11.later hF;have hR12:=Bk hF hR11;have hA12:=Bk hF hA11;have hC12:=Bk hF hC11;have hX12:=hX11.trans (.below hF);have hp12:=hp11.below hF;clear hy11 hc11 hR11 hA11 hC11 hX11 hp11;clear hF;obtain⟨c_hT_0,c_hT_1,c_hT_2,c_hT_3,c_hT_4,c_hT_5⟩:=Cl6 hT12 rfl rfl rfl rfl rfl rfl
    go_wp2_with fail
    refine(Qbd a _).mono ?_;rintro e w13⟨rfl,hF⟩;have hy13:=hy12.later hF;have hc13:=hc12.later hF;have hR13:=Bk hF hR12;have hA13:=Bk hF hA12;have hC13:=Bk hF hC12;have hT13:=Bk hF hT12;have hs13:=hF.size;have hX13:=hX12.trans (.below hF);have hp13:=hp12.below hF;clear hy12 hc12 hR12 hA12 hC12 hT12 hX12 hp12 c_hT_0 c_hT_1 c_hT_2 c_hT_3 c_hT_4 c_hT_5;clear hF;cases hj:(a.ty==1)with
    | false =>
     go_wp2_with fail
     refine(Qay hp13 _ _).mono ?_;rintro e w14⟨T9,v9,rfl,hF⟩;have hy14:=hy13.later hF;have hc14:=hc13.later hF;have hR14:=Bk hF hR13;have hA14:=Bk hF hA13;have hC14:=Bk hF hC13;have hT14:=Bk hF hT13;have hs14:=hF.size;have hX14:=hX13.trans (.below hF);have hp14:=hp13.below hF;clear hy13 hc13 hR13 hA13 hC13 hT13 hX13 hp13;clear hF;have c_hR_0:=Qaa (o:=0) hR14 rfl;have f_hR:=Qae hR14 0;have lt_hR:=Qad hR14
     have HR:=Hi (show has L x (t::r)=none by rw[HF.out,←HG.out,hasL];simp[tx,ht,HU.out,ty,hd,hj]);have HB:=Hi hR14;clear hR14;go_wp2;refine Qai (R:=w.heap.size+1) _ 4 5 (by kernel_rfl) rfl rfl rfl (Qac (o:=0) HB.out _) ?_;exact(Qak HR.out (hX14.set (p:=⟨w.heap.size+1,0,none⟩) (.inr (show _≤w.heap.size+1 by omega)) _))
    | true =>
     have c_hT_5:=Qaa (o:=5) hT13 rfl;have c_hC_0:=Qaa (o:=0) hC13 rfl
     go_wp2_with fail
     refine(Qgy _ _ _ _).mono ?_;rintro e w14⟨rfl,hF⟩;have hy14:=hy13.later hF;have hc14:=hc13.later hF;have hR14:=Bk hF hR13;have hA14:=Bk hF hA13;have hC14:=Bk hF hC13;have hT14:=Bk hF hT13;have hs14:=hF.size;have hX14:=hX13.trans (.below hF);have hp14:=hp13.below hF;clear hy13 hc13 hR13 hA13 hC13 hT13 hX13 hp13 c_hT_5 c_hC_0;clear hF
     go_upto_region 13 with(fail)
     obtain⟨w15,hw⟩:∃w15,w14.alloc (.cells #[.iface 193 (.agg #[.iface Tc vc,.string a.tx])] 299)=w15:=⟨_,rfl⟩
     rw[hw];have hF:Below w14.heap.size w14 w15:=by rw[←hw];exact Qab _ _
     have hH15:w15.heap[w14.heap.size]? =some (.cells #[.iface 193 (.agg #[.iface Tc vc,.string a.tx])] 299 (0,0)):=by rw[←hw];exact Xa _ _
     have hs15:w14.heap.size+1≤w15.heap.size:=by rw[←hw];simp
     clear hw;have hy15:=hy14.later hF;have hc15:=hc14.later hF;have hR15:=Bk hF hR14;have hA15:=Bk hF hA14;have hC15:=Bk hF hC14;have hT15:=Bk hF hT14;have hX15:=hX14.trans (.below hF);have hp15:=hp14.below hF;clear hy14 hc14 hR14 hA14 hC14 hT14 hX14 hp14;clear hF;have c_hA_0:=Qaa (o:=0) hA15 rfl;have c_hH_0:=Qaa (o:=0) hH15 rfl
     go_wp2_with fail
     refine(n207_c _ _ _ _ _).mono ?_;rintro e w16⟨rfl,hF⟩;have hy16:=hy15.later hF;have hc16:=hc15.later hF;have hR16:=Bk hF hR15;have hA16:=Bk hF hA15;have hC16:=Bk hF hC15;have hT16:=Bk hF hT15;have hH16:=Bk hF hH15;have hs16:=hF.size;have hX16:=hX15.trans (.below hF);have hp16:=hp15.below hF;clear hy15 hc15 hR15 hA15 hC15 hT15 hH15 hX15 hp15 c_hA_0 c_hH_0;clear hF;have c_hA_0:=Qaa (o:=0) hA16 rfl
     have f_hA:=Qae hA16 0;have lt_hA:=Qad hA16;have lt_hC:=Qad hC16;have lt_hR:=Qad hR16;have lt_hT:=Qad hT16;have lt_hH:=Qad hH16
     go_upto_region 14 with(fail)
     obtain⟨w17,hw⟩:∃w17,w16.setCell ⟨w5.heap.size,0,none⟩ (.iface 262 (.agg #[.iface Ty vy,.iface 193 (.agg #[.iface Tc vc,.string a.tx])]))=w17:=⟨_,rfl⟩
     rw[hw];have hy17:NodeIs w17 base _ _:=hw▸hy16.store (o:=0) hA16 (by decide) (.iface 262 (.agg #[.iface Ty vy,.iface 193 (.agg #[.iface Tc vc,.string a.tx])]));have hc17:NodeIs w17 base _ _:=hw▸hc16.store (o:=0) hA16 (by decide) (.iface 262 (.agg #[.iface Ty vy,.iface 193 (.agg #[.iface Tc vc,.string a.tx])]));have hR17:w17.heap[w.heap.size+1]? =some (.cells #[.nilIface] 299 (0,0)):=hw▸Qag (o:=0) hR16 (by omega) (.iface 262 (.agg #[.iface Ty vy,.iface 193 (.agg #[.iface Tc vc,.string a.tx])]))
     have hA17:w17.heap[w5.heap.size]? =some (.cells #[.iface 262 (.agg #[.iface Ty vy,.iface 193 (.agg #[.iface Tc vc,.string a.tx])])] 299 (0,0)):=hw▸Qac (o:=0) hA16 (.iface 262 (.agg #[.iface Ty vy,.iface 193 (.agg #[.iface Tc vc,.string a.tx])]));have hC17:w17.heap[w7.heap.size]? =some (.cells #[.iface Tc vc] 299 (0,0)):=hw▸Qag (o:=0) hC16 (by omega) (.iface 262 (.agg #[.iface Ty vy,.iface 193 (.agg #[.iface Tc vc,.string a.tx])]))
     have hT17:w17.heap[w11.heap.size]? =some (.cells a.row 122 (0,0)):=hw▸Qag (o:=0) hT16 (by omega) (.iface 262 (.agg #[.iface Ty vy,.iface 193 (.agg #[.iface Tc vc,.string a.tx])]));have hH17:w17.heap[w14.heap.size]? =some (.cells #[.iface 193 (.agg #[.iface Tc vc,.string a.tx])] 299 (0,0)):=hw▸Qag (o:=0) hH16 (by omega) (.iface 262 (.agg #[.iface Ty vy,.iface 193 (.agg #[.iface Tc vc,.string a.tx])]))
     have hX17:Ext (·=bp) w w17:=hw▸hX16.set (p:=⟨w5.heap.size,0,none⟩) (.inr (show w.heap.size≤w5.heap.size by omega)) (.iface 262 (.agg #[.iface Ty vy,.iface 193 (.agg #[.iface Tc vc,.string a.tx])]));have hs17:w16.heap.size≤w17.heap.size:=by rw[←hw];simp
     have hp17:PS w17 bp base _:=hw▸hp16.set (o:=0) (show base≤w5.heap.size by omega) (.iface 262 (.agg #[.iface Ty vy,.iface 193 (.agg #[.iface Tc vc,.string a.tx])]));clear hy16 hc16 hR16 hA16 hC16 hT16 hH16 hX16 hp16 c_hA_0 f_hA lt_hA lt_hC lt_hR lt_hT lt_hH hw;have c_hC_0:=Qaa (o:=0) hC17 rfl
     go_wp2_with fail
     refine(Qft _ _ _ _).mono ?_;rintro e w18⟨rfl,hF⟩;have hy18:=hy17.later hF;have hc18:=hc17.later hF;have hR18:=Bk hF hR17;have hA18:=Bk hF hA17;have hC18:=Bk hF hC17;have hT18:=Bk hF hT17;have hH18:=Bk hF hH17;have hs18:=hF.size;have hX18:=hX17.trans (.below hF);have hp18:=hp17.below hF;clear hy17 hc17 hR17 hA17 hC17 hT17 hH17 hX17 hp17 c_hC_0;clear hF;have c_hC_0:=Qaa (o:=0) hC18 rfl;have f_hC:=Qae hC18 0
     have lt_hA:=Qad hA18;have lt_hC:=Qad hC18;have lt_hR:=Qad hR18;have hres:hasL (g+1) y c (u::q)=hasL g (.bin 262 y (.sop 193 c a.tx)) (.sop 194 c a.tx) (adv (a::b)):=by rw[hasL];simp[tx,ht,HU.out,ty,hd,hj]
     have HR:=Hi (hres.symm.trans HG.out);clear hres;have H_hA:=Hi hA18;clear hA18;have H_hC:=Hi hC18;clear hC18;have H_hR:=Hi hR18;clear hR18;go_wp2;go_roundw
     case rel =>
      refine⟨g,_,_,_,_,_,_,_,HR.out,by omega,hwa.adv,by omega,hp18.set (o:=0) (by omega) _,.bin 262 _ _ _ _ (hy18.store (o:=0) H_hC.out (by decide) _) (.sop 193 _ _ _ (hc18.store (o:=0) H_hC.out (by decide) _)),.sop 194 _ _ _ (hc18.store (o:=0) H_hC.out (by decide) _),Qag H_hA.out (by omega) _,Qac (o:=0) H_hC.out _,Qag H_hR.out (by omega) _,hX18.set (p:=⟨w7.heap.size,0,none⟩) (.inr (show _≤w7.heap.size by omega)) _⟩
     case measure =>
      rw[(hp18.set (d:=w7.heap.size) (o:=0) (by omega) _).left,HLF.out];omega
 | false =>
  obtain⟨c_hT_0,c_hT_1,c_hT_2,c_hT_3,c_hT_4,c_hT_5⟩:=Cl6 hT4 rfl rfl rfl rfl rfl rfl
  go_wp2_with fail
  refine(QbY t _).mono ?_;rintro e w5⟨rfl,hF⟩;have hx5:=hx4.later hF;have hL5:=Bk hF hL4;have hR5:=Bk hF hR4;have hT5:=Bk hF hT4;have hs5:=hF.size;have hX5:=hX4.trans (.below hF);have hp5:=hp4.below hF;clear hx4 hL4 hR4 hT4 hX4 hp4 c_hT_0 c_hT_1 c_hT_2 c_hT_3 c_hT_4 c_hT_5;clear hF;cases hj:(t.ty==4)with
  | false =>
   go_wp2_with fail
   refine(Qay hp5 _ _).mono ?_;rintro e w6⟨T9,v9,rfl,hF⟩;have hx6:=hx5.later hF;have hL6:=Bk hF hL5;have hR6:=Bk hF hR5;have hT6:=Bk hF hT5;have hs6:=hF.size;have hX6:=hX5.trans (.below hF);have hp6:=hp5.below hF;clear hx5 hL5 hR5 hT5 hX5 hp5;clear hF;have c_hR_0:=Qaa (o:=0) hR6 rfl;have f_hR:=Qae hR6 0;have lt_hR:=Qad hR6;have HR:=Hi (show has L x (t::r)=none by unfold Pg.has;simp[ty,hd,hi,hj]);have HB:=Hi hR6;clear hR6
   go_wp2;refine Qai (R:=w.heap.size+1) _ 4 5 (by kernel_rfl) rfl rfl rfl (Qac (o:=0) HB.out _) ?_;exact(Qak HR.out (hX6.set (p:=⟨w.heap.size+1,0,none⟩) (.inr (show _≤w.heap.size+1 by omega)) _))
  | true =>
   obtain⟨c_hT_0,c_hT_1,c_hT_2,c_hT_3,c_hT_4,c_hT_5⟩:=Cl6 hT5 rfl rfl rfl rfl rfl rfl
   go_wp2_with fail
   refine(hL.str t _ hp5.g (by omega) htz hp5.hbs).mono ?_;rintro e w6⟨hF,hr⟩;have hx6:=hx5.later hF;have hL6:=Bk hF hL5;have hR6:=Bk hF hR5;have hT6:=Bk hF hT5;have hs6:=hF.size;have hX6:=hX5.trans (.below hF);have hp6:=hp5.below hF;clear hx5 hL5 hR5 hT5 hX5 hp5 c_hT_0 c_hT_1 c_hT_2 c_hT_3 c_hT_4 c_hT_5;clear hF;cases hm:L.str t.tx with
   | none =>
    rw[hm]at hr;obtain⟨s,T2,v2,rfl⟩:=hr;have c_hR_0:=Qaa (o:=0) hR6 rfl;have f_hR:=Qae hR6 0;have lt_hR:=Qad hR6;have HR:=Hi (show has L x (t::r)=none by unfold Pg.has;simp[ty,hd,hi,hj,hm]);have HB:=Hi hR6;clear hR6;go_wp2;refine Qai (R:=w.heap.size+1) _ 4 5 (by kernel_rfl) rfl rfl rfl (Qac (o:=0) HB.out _) ?_;exact(Qak HR.out (hX6.set (p:=⟨w.heap.size+1,0,none⟩) (.inr (show _≤w.heap.size+1 by omega)) _))
   | some s =>
    rw[hm]at hr;obtain⟨rfl,hsz⟩:=hr;have HM:=Hi hm;clear hm;have c_hL_0:=Qaa (o:=0) hL6 rfl
    go_wp2_with fail
    refine(Qgy _ _ _ _).mono ?_;rintro e w7⟨rfl,hF⟩;have hx7:=hx6.later hF;have hL7:=Bk hF hL6;have hR7:=Bk hF hR6;have hT7:=Bk hF hT6;have hs7:=hF.size;have hX7:=hX6.trans (.below hF);have hp7:=hp6.below hF;clear hx6 hL6 hR6 hT6 hX6 hp6 c_hL_0;clear hF;have c_hR_0:=Qaa (o:=0) hR7 rfl;have f_hR:=Qae hR7 0;have lt_hR:=Qad hR7;have HR:=Hi (show has L x (t::r)=some (.sop 193 x s,adv (t::r))by unfold Pg.has;simp[ty,hd,hi,hj,HM.out])
    have HB:=Hi hR7;clear hR7;go_wp2;refine Qai (R:=w.heap.size+1) _ 4 5 (by kernel_rfl) rfl rfl rfl (Qac (o:=0) HB.out _) ?_;exact(Qal HR.out (hX7.set (p:=⟨w.heap.size+1,0,none⟩) (.inr (show _≤w.heap.size+1 by omega)) _) (hp7.set (o:=0) (by omega) _) (NodeIs.store (o:=0) (.sop 193 _ _ _ hx7) HB.out (by decide) _))
theorem trim_sz(s:ByteArray)(h:s.size≤1000000):(⟨(Lib.trimPrefix s.data.toList [34]).toArray⟩:ByteArray).size≤9223372036854775807:=by
 have:(Lib.trimPrefix s.data.toList [34]).length≤s.data.toList.length:=by unfold Lib.trimPrefix;split<;>simp
 have e:s.data.toList.length=s.size:=rfl;show(Lib.trimPrefix s.data.toList [34]).toArray.size≤_;simp;omega
theorem like_w{L:Lex}(hL:LexC L){bp base N:Nat}:FnL 219 (like L) bp base N:=by
 intro w ts T v x hp hwf hN hbs hx_w;have hbb:=hp.hbp;have h15:=hp.h15;obtain⟨t,r,rfl⟩:∃t r,ts=t::r:=by cases ts with | nil=>exact absurd rfl hp.ne | cons t r=>exact⟨t,r,rfl⟩
 have htz:=hp.sz;go_enter func219,ntmps219
 go_upto_region 1 with(fail)
 obtain⟨w1,hw⟩:∃w1,((w.alloc (.cells #[.iface T v] 299)).alloc (.cells #[.nilIface] 299))=w1:=⟨_,rfl⟩
 rw[hw];have hF:Below w.heap.size w w1:=by rw[←hw];exact(Qab w _).alloc (by simp) _
 have hL1:w1.heap[w.heap.size]? =some (.cells #[.iface T v] 299 (0,0)):=by rw[←hw];exact Qaf (Qah (by simp) _) _
 have hR1:w1.heap[w.heap.size+1]? =some (.cells #[.nilIface] 299 (0,0)):=by rw[←hw];exact Qah (by simp) _
 have hs1:w.heap.size+2≤w1.heap.size:=by rw[←hw];simp
 clear hw;have hx1:=hx_w.later hF;have hX1:Ext (·=bp) w w1:=.below hF;have hp1:=hp.below hF;clear hx_w hp;clear hF
 go_wp2_with fail
 refine(Qaz hp1).mono ?_;rintro e w2⟨rfl,hp2,hF⟩;have hx2:=hx1.keep hF (fun d hd=>by omega);have hL2:=hF.heap (by omega) hL1;have hR2:=hF.heap (by omega) hR1;have hs2:=hF.size;have hX2:=hX1.trans hF;clear hx1 hL1 hR1 hX1 hp1;clear hF
 go_upto_region 2 with(fail)
 obtain⟨w3,hw⟩:∃w3,w2.alloc (.cells t.row 122)=w3:=⟨_,rfl⟩
 rw[hw];have hF:Below w2.heap.size w2 w3:=by rw[←hw];exact Qab _ _
 have hT3:w3.heap[w2.heap.size]? =some (.cells t.row 122 (0,0)):=by rw[←hw];exact Xa _ _
 have hs3:w2.heap.size+1≤w3.heap.size:=by rw[←hw];simp
 clear hw;have hx3:=hx2.later hF;have hL3:=Bk hF hL2;have hR3:=Bk hF hR2;have hX3:=hX2.trans (.below hF);have hp3:=hp2.below hF;clear hx2 hL2 hR2 hX2 hp2;clear hF;obtain⟨c_hT_0,c_hT_1,c_hT_2,c_hT_3,c_hT_4,c_hT_5⟩:=Cl6 hT3 rfl rfl rfl rfl rfl rfl
 go_wp2_with fail
 refine(QbY t _).mono ?_;rintro e w4⟨rfl,hF⟩;have hx4:=hx3.later hF;have hL4:=Bk hF hL3;have hR4:=Bk hF hR3;have hT4:=Bk hF hT3;have hs4:=hF.size;have hX4:=hX3.trans (.below hF);have hp4:=hp3.below hF;clear hx3 hL3 hR3 hT3 hX3 hp3 c_hT_0 c_hT_1 c_hT_2 c_hT_3 c_hT_4 c_hT_5;clear hF;cases hi:(t.ty==4)with
 | false =>
  go_wp2_with fail
  refine(Qay hp4 _ _).mono ?_;rintro e w5⟨T9,v9,rfl,hF⟩;have hx5:=hx4.later hF;have hL5:=Bk hF hL4;have hR5:=Bk hF hR4;have hT5:=Bk hF hT4;have hs5:=hF.size;have hX5:=hX4.trans (.below hF);have hp5:=hp4.below hF;clear hx4 hL4 hR4 hT4 hX4 hp4;clear hF;have c_hR_0:=Qaa (o:=0) hR5 rfl;have f_hR:=Qae hR5 0;have lt_hR:=Qad hR5;have HR:=Hi (show like L x (t::r)=none by unfold Pg.like;simp[ty,hd,hi]);have HB:=Hi hR5;clear hR5
  go_wp2;refine Qai (R:=w.heap.size+1) _ 4 5 (by kernel_rfl) rfl rfl rfl (Qac (o:=0) HB.out _) ?_;exact(Qak HR.out (hX5.set (p:=⟨w.heap.size+1,0,none⟩) (.inr (show _≤w.heap.size+1 by omega)) _))
 | true =>
  have c_hT_5:=Qaa (o:=5) hT4 rfl
  go_wp2_with fail
  refine(Tryz.strings_TrimPrefix _ _ _).mono ?_;rintro e w4⟨rfl,rfl⟩
  go_wp2_with fail
  refine(Tryz.strings_TrimSuffix _ _ _ ?_).mono ?_
  ·exact trim_sz t.tx htz
  rintro e w4⟨rfl,rfl⟩
  go_wp2_with fail
  refine(hL.pat base t.tx w4 hp4.g (by omega) (by omega) htz).mono ?_;rintro e w5⟨hF,hr⟩;have hx5:=hx4.later hF;have hL5:=Bk hF hL4;have hR5:=Bk hF hR4;have hT5:=Bk hF hT4;have hs5:=hF.size;have hX5:=hX4.trans (.below hF);have hp5:=hp4.below hF;clear hx4 hL4 hR4 hT4 hX4 hp4 c_hT_5;clear hF;cases hm:L.pat t.tx with
  | none =>
   rw[hm]at hr;obtain⟨p9,n9,c9,T2,v2,rfl⟩:=hr;have c_hR_0:=Qaa (o:=0) hR5 rfl;have f_hR:∀o,(w5.alloc o).frozen? ⟨w.heap.size+1,0,none⟩=false:=fun o=>Qae (Qaf hR5 o) 0
   have lt_hR:=Qad hR5;have HR:=Hi (show like L x (t::r)=none by unfold Pg.like;simp[ty,hd,hi,hm]);have HB:=Hi hR5;clear hR5;go_wp2;refine Qai (R:=w.heap.size+1) _ 4 5 (by kernel_rfl) rfl rfl rfl (Qaf (Qac (o:=0) HB.out _) _) ?_;exact(Qak HR.out ((hX5.set (p:=⟨w.heap.size+1,0,none⟩) (.inr (show _≤w.heap.size+1 by omega)) _).alloc _))
  | some l =>
   rw[hm]at hr;obtain⟨p9,c9,rfl,hrow⟩:=hr;have HM:=Hi hm;clear hm
   go_upto_region 8 with(fail)
   obtain⟨w6,hw⟩:∃w6,w5.alloc (.cells #[.slice p9 l.length c9] 197)=w6:=⟨_,rfl⟩
   rw[hw];have hF:Below w5.heap.size w5 w6:=by rw[←hw];exact Qab _ _
   have hP6:w6.heap[w5.heap.size]? =some (.cells #[.slice p9 l.length c9] 197 (0,0)):=by rw[←hw];exact Xa _ _
   have hs6:w5.heap.size+1≤w6.heap.size:=by rw[←hw];simp
   clear hw;have hx6:=hx5.later hF;have hL6:=Bk hF hL5;have hR6:=Bk hF hR5;have hT6:=Bk hF hT5;have hX6:=hX5.trans (.below hF);have hp6:=hp5.below hF;clear hx5 hL5 hR5 hT5 hX5 hp5;have hF9:=hF;clear hF;have hn9:NodeIs w6 base (.iface 199 (.agg #[.iface T v,.slice p9 l.length c9])) (.like x l):=.like _ _ _ _ _ hx6 (hrow.ext (.inr (.inr rfl)) (S:=fun _=>False) (.below hF9) (fun _ h=>h.elim));clear hrow hF9
   have hn9x6:=hn9;clear hn9;have c_hL_0:=Qaa (o:=0) hL6 rfl;have c_hP_0:=Qaa (o:=0) hP6 rfl
   go_wp2_with fail
   refine(n236_c _ _ _ _ _ _).mono ?_;rintro e w7⟨rfl,hF⟩;have hx7:=hx6.later hF;have hn9x7:=hn9x6.later hF;have hL7:=Bk hF hL6;have hR7:=Bk hF hR6;have hT7:=Bk hF hT6;have hP7:=Bk hF hP6;have hs7:=hF.size;have hX7:=hX6.trans (.below hF);have hp7:=hp6.below hF;clear hx6 hn9x6 hL6 hR6 hT6 hP6 hX6 hp6 c_hL_0 c_hP_0;clear hF;have c_hR_0:=Qaa (o:=0) hR7 rfl;have f_hR:=Qae hR7 0;have lt_hR:=Qad hR7;have HR:=Hi (show like L x (t::r)=some (.like x l,adv (t::r))by unfold Pg.like;simp[ty,hd,hi,HM.out])
   have HB:=Hi hR7;clear hR7;go_wp2;refine Qai (R:=w.heap.size+1) _ 4 5 (by kernel_rfl) rfl rfl rfl (Qac (o:=0) HB.out _) ?_;exact(Qal HR.out (hX7.set (p:=⟨w.heap.size+1,0,none⟩) (.inr (show _≤w.heap.size+1 by omega)) _) (hp7.set (o:=0) (by omega) _) (NodeIs.store (o:=0) (hn9x7) HB.out (by decide) _))
end Go.Proofs.Pg
namespace Go.Proofs.Pg
open Go.RowKit Go.Proofs.Tryz
theorem Qa5{w:World}{base:Nat}{e:TypeId}{size:Nat}{v:Value}{n:Nat}{xs:List Value}(h:w.ownsRow base e size v n xs){k:Nat}(hk:v.ownBlock=some k):base≤k∧∃c,w.heap[k]? =some (.cells c e (0,0)):=by
 rcases h.2 with⟨rfl,_⟩ | ⟨g,cap,cur,rfl,a,b,_⟩
 ·cases hk
 ·cases hk;exact⟨a,cur,b⟩
theorem QaF{w w':World}{base:Nat}{e:TypeId}{size:Nat}{v:Value}{n:Nat}{xs:List Value}(ho:w.ownsRow base e size v n xs)(hg:w.grownBy w' v.ownBlock)(he:e≠348:=by decide):Ext (fun d=>v.ownBlock=some d) w w' :=
 ⟨hg.os,hg.tape,hg.output,hg.size,fun b hb hn=>hg.block b hb (fun e=>hn e.symm),fun d ⟨u,hd⟩=>⟨u,(hg.block d (Qad hd) (fun q=>by obtain⟨_,c,hc⟩:=Qa5 ho q.symm;rw[hd]at hc;cases hc;exact he rfl)).trans hd⟩⟩
theorem NodeIs.grow{w w':World}{lo:Nat}{u:Value}{x:Ex}{base:Nat}{e:TypeId}{size:Nat}{v:Value}{n:Nat}{xs:List Value}(h:NodeIs w lo u x)(ho:w.ownsRow base e size v n xs)(hg:w.grownBy w' v.ownBlock)(he:e≠136∧e≠221∧e≠316)(he':e≠348:=by decide):NodeIs w' lo u x :=
 h.ext (QaF ho hg he') (fun d hd=>by obtain⟨_,c,hc⟩:=Qa5 ho hd;exact .inr (.inr ⟨c,e,_,hc,he⟩))
theorem PS.grow{w w':World}{bp b0:Nat}{ts:List Tok}{base:Nat}{e:TypeId}{size:Nat}{v:Value}{n:Nat}{xs:List Value}(h:PS w bp b0 ts)(ho:w.ownsRow base e size v n xs)(hg:w.grownBy w' v.ownBlock)(hb:b0≤base)(he':e≠348:=by decide):PS w' bp b0 ts :=
 h.ext (QaF ho hg he') (fun d hd=>Xe hb (Qa5 ho hd).1)
theorem QaL{w w':World}{base:Nat}{e:TypeId}{size:Nat}{v:Value}{n:Nat}{xs:List Value}{d:Nat}{o:Obj}(h:w.heap[d]? =some o)(ho:w.ownsRow base e size v n xs)(hg:w.grownBy w' v.ownBlock)(hd:d<base):w'.heap[d]? =some o :=
 (hg.block d (Qad h) (fun e=>by have:=(Qa5 ho e.symm).1;omega)).trans h
theorem QaR{w w':World}{base:Nat}{e:TypeId}{size:Nat}{v:Value}{n:Nat}{xs:List Value}{d:Nat}{c:Array Value}{T:TypeId}{fr:Nat×Nat}(h:w.heap[d]? =some (.cells c T fr))(ho:w.ownsRow base e size v n xs)(hg:w.grownBy w' v.ownBlock)(hT:T≠e):w'.heap[d]? =some (.cells c T fr) :=
 (hg.block d (Qad h) (fun q=>by obtain⟨_,c',hc⟩:=Qa5 ho q.symm;rw[h]at hc;cases hc;exact hT rfl)).trans h
theorem Ext.grow{S:Nat→Prop}{w0 w w':World}{base:Nat}{e:TypeId}{size:Nat}{v:Value}{n:Nat}{xs:List Value}(h:Ext S w0 w)(ho:w.ownsRow base e size v n xs)(hg:w.grownBy w' v.ownBlock)(hb:w0.heap.size≤base)(he':e≠348:=by decide):Ext S w0 w' :=
 h.trans' (QaF ho hg he') (fun d hd=>.inr (Xe hb (Qa5 ho hd).1))
theorem Qaj{S:Nat→Prop}{w w':World}{base:Nat}{e:TypeId}{size:Nat}{v:Value}{n:Nat}{xs:List Value}(h:w.ownsRow base e size v n xs)(he:Ext S w w')(hs:∀d,S d→d<base):w'.ownsRow base e size v n xs:=by
 obtain⟨h1,h2⟩:=h;refine⟨h1,?_⟩;rcases h2 with h | ⟨g,cap,cur,a,b,c,d⟩
 ·exact .inl h
 ·exact .inr ⟨g,cap,cur,a,b,he.heap (fun hS=>by have:=hs _ hS;omega) c,d⟩
theorem Qdo{w:World}{base:Nat}{e:TypeId}{size:Nat}{v:Value}{n:Nat}{xs:List Value}{d o:Nat}{c:Array Value}{T:TypeId}{fr:Nat×Nat}(h:w.ownsRow base e size v n xs)(hd:w.heap[d]? =some (.cells c T fr))(hT:T≠e)(u:Value):(w.setCell ⟨d,o,none⟩ u).ownsRow base e size v n xs:=by
 obtain⟨h1,h2⟩:=h;refine⟨h1,?_⟩;rcases h2 with h | ⟨g,cap,cur,a,b,c',d'⟩
 ·exact .inl h
 ·exact .inr ⟨g,cap,cur,a,b,Qag c' (by rintro rfl;rw[hd]at c';cases c';exact hT rfl) u,d'⟩
structure SlT(P:Program)(T E:TypeId)(z:Value)(sz by':Nat):Prop where
 hu:P.underlying T=some (.slice E)
 i:∃i0,P.info? E=some i0∧i0.zero=some z∧i0.size=sz∧i0.bytes=by'
 zs:z.cells.size=sz
 pos:0<sz
theorem appG{P:Program}{ops:Array Oper}{rest:List Oper}{o:Oper}{a:Act}{w:World}{Q:Exit→Act→World→Prop}{T E:TypeId}{z:Value}{sz by':Nat}(hT:SlT P T E z sz by')
  (hgd:o.guard=none)(s xo:Operand)(ho:o.op=.call {callee:=.builtin .append,args:=#[s,xo],argTypes:=#[T,T]})(base:Nat)(v:Value)(n:Nat)(xs:List Value)(hs:a.eval s=v)(hown:w.ownsRow base E sz v n xs)
  (blk:Nat)(news:List Value)(hl:news.length=1*sz)(hx:a.eval xo=.slice (some ⟨blk,0,none⟩) 1 1)(hc:∀j u,news[j]? =some u→w.cell? ⟨blk,j,none⟩=some u)(h1:∀v∈news,v.oneCell'=true)(hm:n+1≤maxLen)(hn:(n+1)*by'≤140737488355328)(hbase:base≤w.heap.size)
  (h:∀v' w',w'.ownsRow base E sz v' (n+1) (xs++news)→w.grownBy w' v.ownBlock→v'≠.slice none 0 0→wpList P ops Q rest (a.put o.dst v') w'):wpList P ops Q (o::rest) a w:=by
 obtain⟨i0,hi,hz0,hz1,hz2⟩:=hT.i;refine wpList_append_own w hgd s xo T ho base E i0 z sz by' hT.hu hi hz0 hz1 hz2 hT.zs hT.pos v n xs hs hown ⟨blk,0,none⟩ 1 1 news hx hl ?_ h1 hm hn hbase (fun v' w' h2 h3 h4=>h v' w' h2 h3 (fun e=>by have:=(h4.1 e).2;omega));intro j u hj;have:=hc j u hj;by_cases h0:j=0
 ·subst h0;simpa [Addr.add]using this
 ·simpa [Addr.add,h0]using this
theorem sl254:SlT prog 254 4 (.bool false) 1 1:=⟨by kernel_rfl,⟨Tryz.t4,by kernel_rfl,by kernel_rfl,by kernel_rfl,by kernel_rfl⟩,rfl,by decide⟩
theorem sl413:SlT prog 413 299 (.agg #[.nilIface]) 1 16:=⟨by kernel_rfl,⟨Tryz.t299,by kernel_rfl,by kernel_rfl,by kernel_rfl,by kernel_rfl⟩,rfl,by decide⟩
theorem sl434:SlT prog 434 439 (.agg #[.string ⟨#[]⟩,.nilIface]) 2 32:=⟨by kernel_rfl,⟨Tryz.t439,by kernel_rfl,by kernel_rfl,by kernel_rfl,by kernel_rfl⟩,rfl,by decide⟩
theorem sl217:SlT prog 217 221 (.agg #[.string ⟨#[]⟩,.nilIface]) 2 32:=⟨by kernel_rfl,⟨Tryz.t221,by kernel_rfl,by kernel_rfl,by kernel_rfl,by kernel_rfl⟩,rfl,by decide⟩
theorem sl321:SlT prog 321 20 .nilIface 1 16:=⟨by kernel_rfl,⟨Tryz.t20,by kernel_rfl,by kernel_rfl,by kernel_rfl,by kernel_rfl⟩,rfl,by decide⟩
theorem sl195:SlT prog 195 316 (.agg #[.bool false,.string ⟨#[]⟩]) 2 24:=⟨by kernel_rfl,⟨Tryz.t316,by kernel_rfl,by kernel_rfl,by kernel_rfl,by kernel_rfl⟩,rfl,by decide⟩
end Go.Proofs.Pg
namespace Go.Proofs.Pg
open Go.RowKit Go.Proofs.Tryz
attribute [local go_sem] Oper.semAt_some
def BoolRow(w:World)(B:Nat)(v:Value)(l:List Bool):Prop :=
 (l=[]∧v=.slice none 0 0)∨∃g cap c,v=.slice (some ⟨g,0,none⟩) l.length cap∧B≤g∧w.heap[g]? =some (.cells c 4 (0,0))∧l.length≤cap∧cap≤maxLen∧∀i,i<l.length→c[i]? =some (.bool (l.getD i false))
theorem QfZ{w:World}{B:Nat}{v:Value}{l:List Bool}(h:w.ownsRow B 4 1 v l.length (l.map .bool)):BoolRow w B v l:=by
 obtain⟨h1,h2⟩:=h;rcases h2 with⟨h,h0⟩ | ⟨g,cap,cur,a,b,c,d,e,f,k⟩
 ·exact .inl ⟨List.length_eq_zero_iff.1 h0,h⟩
 ·refine .inr ⟨g,cap,cur,a,b,c,d,e,fun i hi=>?_⟩
  have hk:(cur.toList.take (l.length*1))[i]? =(l.map Value.bool)[i]? := by rw[k]
  rw[List.getElem?_take_of_lt (by omega)]at hk;rw[List.getElem?_map]at hk;have:l[i]? =some (l.getD i false):=by simp[List.getD,List.getElem?_eq_getElem hi]
  rw[this]at hk;simpa using hk
theorem BoolRow.ext{w w':World}{B:Nat}{v:Value}{l:List Bool}{S:Nat→Prop}(h:BoolRow w B v l)(he:Ext S w w')(hs:∀d,S d→d<B):BoolRow w' B v l:=by
 rcases h with h | ⟨g,cap,c,a,b,d,e,f,k⟩
 ·exact .inl h
 ·exact .inr ⟨g,cap,c,a,b,he.heap (fun hS=>by have:=hs _ hS;omega) d,e,f,k⟩
theorem BoolRow.set{w:World}{B d o:Nat}{v:Value}{l:List Bool}{c:Array Value}{T:TypeId}{fr:Nat×Nat}(h:BoolRow w B v l)(hd:w.heap[d]? =some (.cells c T fr))(hT:T≠4)(u:Value):BoolRow (w.setCell ⟨d,o,none⟩ u) B v l:=by
 rcases h with h | ⟨g,cap,c',a,b,d',e,f,k⟩
 ·exact .inl h
 ·exact .inr ⟨g,cap,c',a,b,Qag d' (by rintro rfl;rw[hd]at d';cases d';exact hT rfl) u,e,f,k⟩
theorem QaD{w:World}{b:Nat}{v:Value}(h:w.cell? ⟨b,0,none⟩=some v):∀j u,[v][j]? =some u→w.cell? ⟨b,j,none⟩=some u:=by
 intro j u hj
 match j,hj with
 | 0,hj=>simp at hj;subst hj;exact h
 | j+1,hj=>simp at hj
theorem QbI{w:World}{B:Nat}{p:Option Addr}{n c:Nat}{l:List Bool}(h:BoolRow w B (.slice p n c) l){m:Nat}(hm:m<l.length):∃g,p=some ⟨g,0,none⟩∧w.cell? ⟨g,m,none⟩=some (.bool (l.getD m false)):=by
 rcases h with⟨rfl,_⟩ | ⟨g,cap,c',a,_,d',_,_,k⟩
 ·simp at hm
 ·cases a;exact⟨g,rfl,Qaa d' (k m hm)⟩
theorem Qdg{w:World}{lo:Nat}{v:Value}(l:List Bool)(x:Ex)(n:Int)(h:NodeIs w lo v x)(hn:n=(l.length:Int)-1:=by rfl):NodeIs w lo v (signed (l.drop (n+1).toNat) x):=by
 subst hn;simp[signed];exact h
theorem QeS(l:List Bool)(x:Ex){m:Nat}(hm:m<l.length):signed (l.drop m) x=if l.getD m false=true then .una 208 (signed (l.drop (m+1)) x)else .una 209 (signed (l.drop (m+1)) x):=by
 have e:l.drop m=l.getD m false::l.drop (m+1):=by rw[List.drop_eq_getElem_cons hm];simp[List.getD,List.getElem?_eq_getElem hm]
 rw[e];rfl
theorem Qc4{w:World}{lo m:Nat}{l:List Bool}{x:Ex}{T:TypeId}{v:Value}(hs:signed (l.drop m) x=if l.getD m false=true then .una 208 (signed (l.drop (m+1)) x)else .una 209 (signed (l.drop (m+1)) x))(hb:l.getD m false=true)(h:NodeIs w lo (.iface T v) (signed (l.drop ((m:Int)+1).toNat) x)):NodeIs w lo (.iface 208 (.agg #[.iface T v])) (signed (l.drop ((m:Int)-1+1).toNat) x):=by
 rw[show((m:Int)-1+1).toNat=m by omega,hs,if_pos hb];rw[show((m:Int)+1).toNat=m+1 by omega]at h;exact .una 208 _ _ h
theorem Qck{w:World}{lo m:Nat}{l:List Bool}{x:Ex}{T:TypeId}{v:Value}(hs:signed (l.drop m) x=if l.getD m false=true then .una 208 (signed (l.drop (m+1)) x)else .una 209 (signed (l.drop (m+1)) x))(hb:l.getD m false=false)(h:NodeIs w lo (.iface T v) (signed (l.drop ((m:Int)+1).toNat) x)):NodeIs w lo (.iface 209 (.agg #[.iface T v])) (signed (l.drop ((m:Int)-1+1).toNat) x):=by
 rw[show((m:Int)-1+1).toNat=m by omega,hs,hb,if_neg (by decide)];rw[show((m:Int)+1).toNat=m+1 by omega]at h;exact .una 209 _ _ h
theorem Qga{w:World}{B:Nat}{p:Option Addr}{n c:Nat}{l:List Bool}(h:BoolRow w B (.slice p n c) l)(hl:l≠[]):l.length≤c:=by
 rcases h with⟨h,_⟩ | ⟨g,cap,c',a,_,_,e,_,_⟩
 ·exact absurd h hl
 ·cases a;exact e
theorem QeT{w:World}{B:Nat}{p:Option Addr}{n c:Nat}{l:List Bool}{b:Bool}(h:BoolRow w B (.slice p n c) (l.concat b)):BoolRow w B (.slice p l.length c) l:=by
 rcases h with⟨h,_⟩ | ⟨g,cap,c',a,b1,d',e,f,k⟩
 ·simp at h
 ·cases a
  refine .inr ⟨g,_,c',rfl,b1,d',by simp at e;omega,f,fun i hi=>?_⟩;have:=k i (by simp;omega);rw[this];simp[List.getD,List.getElem?_append_left hi]
def SgRel(bp base R B V:Nat)(w:World)(ov:Value)(l:List Bool)(x:Ex)(ts:Toks)(s:Value)(wr:World):Prop :=
 ∃j T v,s=.int .i64 j∧-1≤j∧j<l.length∧NodeIs wr base (.iface T v) (signed (l.drop (j+1).toNat) x)∧wr.heap[V]? =some (.cells #[.iface T v] 299 (0,0))∧PS wr bp base ts∧BoolRow wr B ov l∧wr.heap[R]? =some (.cells #[.nilIface] 299 (0,0))∧Ext (·=bp) w wr
def OpsRel(bp base N R B:Nat)(w:World)(Rm:List Bool×Toks)(s:Value)(wr:World):Prop :=
 ∃g acc vs,opsL g acc vs=Rm∧vs.length<g∧Wf vs∧vs.length≤N∧acc.length+vs.length≤N∧PS wr bp base vs∧wr.ownsRow B 4 1 s acc.length (acc.map .bool)∧wr.heap[R]? =some (.cells #[.nilIface] 299 (0,0))∧Ext (·=bp) w wr
theorem unary_w{L:Lex}(hL:LexC L){E:Toks→Option (Ex×Toks)}{bp base N:Nat}(hE:Sh E)(hM:FnC 248 (member L E) bp base N):FnC 240 (unary L E) bp base N:=by
 intro w ts hp hwf hN hbs;have hbb:=hp.hbp;have h15:=hp.h15;have hlen:=hp.len;have HM:=Hi hM;have HE:=Hi hE;clear hM hE;go_enter func240,ntmps240
 go_upto_region 2 with(fail)
 obtain⟨w1,hw⟩:∃w1,(w.alloc (.cells #[.nilIface] 299))=w1:=⟨_,rfl⟩
 rw[hw];have hF:Below w.heap.size w w1:=by rw[←hw];exact Qab w _
 have hR1:w1.heap[w.heap.size]? =some (.cells #[.nilIface] 299 (0,0)):=by rw[←hw];exact Qah (by simp) _
 have hs1:w.heap.size+1≤w1.heap.size:=by rw[←hw];simp
 clear hw;have hX1:Ext (·=bp) w w1:=.below hF;have hp1:=hp.below hF;clear hp;clear hF;obtain⟨ops,hops⟩:∃q,opsL (ts.length+1) [] ts=q:=⟨_,rfl⟩
 have HOP:=Hi hops
 go_loopw [4] (fun s wr=>OpsRel bp base ts.length (w.heap.size) (w.heap.size+1) w ops s wr) (fun _ wr=>left wr bp)
 case atStart=>exact⟨ts.length+1,[],ts,hops,by omega,hwf,by omega,by simp,hp1,⟨rfl,.inl ⟨rfl,rfl⟩⟩,hR1,hX1⟩
 case round =>
  clear hR1 hp1 hX1 hops;obtain⟨wo,rfl⟩:∃wo:World,wo=wr:=⟨_,rfl⟩
  rename_i sops _;obtain⟨g,acc,vs,hg,hgl,hvw,hvN,haN,hp_wo,hO_wo,hR_wo,hX_wo⟩:=hrel;have HG:=Hi hg;clear hg;cases g with
  | zero=>omega
  | succ g =>
  obtain⟨u,q,rfl⟩:∃u q,vs=u::q:=by cases vs with | nil=>exact absurd rfl hp_wo.ne | cons u q=>exact⟨u,q,rfl⟩
  have HLF:=Hi hp_wo.left;have hsz_wo:=hX_wo.size;have ltR:=Qad hR_wo
  go_wp2_with fail
  refine(Qa7 hp_wo).mono ?_;rintro e w2⟨rfl,hF⟩;have hR2:=Bk hF hR_wo;have hO2:=Qaj (S:=fun _=>False) hO_wo (.below hF) (fun _ h=>h.elim);have hs2:=hF.size;have hX2:=hX_wo.trans (.below hF);have hp_w2:=hp_wo.below hF;clear hR_wo hO_wo hX_wo hp_wo;clear hF
  go_upto_region 3 with(fail)
  obtain⟨w3,hw⟩:∃w3,w2.alloc (.cells u.row 122)=w3:=⟨_,rfl⟩
  rw[hw];have hF:Below w2.heap.size w2 w3:=by rw[←hw];exact Qab _ _
  have hK3:w3.heap[w2.heap.size]? =some (.cells u.row 122 (0,0)):=by rw[←hw];exact Xa _ _
  have hs3:w2.heap.size+1≤w3.heap.size:=by rw[←hw];simp
  clear hw;have hR3:=Bk hF hR2;have hO3:=Qaj (S:=fun _=>False) hO2 (.below hF) (fun _ h=>h.elim);have hX3:=hX2.trans (.below hF);have hp3:=hp_w2.below hF;clear hR2 hO2 hX2 hp_w2;clear hF;cases ht:(u.tx.toList==[45])with
  | true =>
   have hau:(adv (u::q)).length<(u::q).length:=Qax hvw (s:=[45]) ht (by decide);have c_hK_5:=Qaa (o:=5) hK3 rfl
   go_wp2_with fail
   refine(Qaz hp3).mono ?_;rintro e w4⟨rfl,hp4,hF⟩;have hR4:=hF.heap (by omega) hR3;have hK4:=hF.heap (by omega) hK3;have hO4:=Qaj hO3 hF (fun d hd=>by omega);have hs4:=hF.size;have hX4:=hX3.trans hF;clear hR3 hK3 hO3 hX3 hp3 c_hK_5;clear hF;have c_hK_5:=Qaa (o:=5) hK4 rfl;have hop:opsL (g+1) acc (u::q)=opsL g (acc++[true]) (adv (u::q)):=by rw[opsL];simp[tx,ht]
   have HR:=Hi (hop.symm.trans HG.out);clear hop;have hcn:(w4.alloc (.cells #[.bool true] 4)).cell? ⟨w4.heap.size,0,none⟩=some (.bool true):=Qaa (Xa _ _) rfl
   go_wp2_with(at_builtin;refine appG sl254 rfl _ _ rfl (w.heap.size+1) _ _ _ rfl (hO4.alloc _) _ [.bool true] rfl rfl (QaD hcn) (fun v hv=>by rw[List.mem_singleton.1 hv];rfl) (by unfold maxLen;omega) (by omega) (by simp;omega) ?_)
   intro v9 w9 hO9 hg9 _;have hb9:=Qab w4 (.cells #[.bool true] 4);have hp9:=(hp4.below hb9).grow (hO4.alloc _) hg9 (by omega);have hR9:=QaL (Qaf hR4 _) (hO4.alloc _) hg9 (by omega);have hX9:=(hX4.alloc _).grow (hO4.alloc _) hg9 (by omega);clear hO4 hR4 hK4 hp4 hX4 hcn hb9 hg9 c_hK_5;go_wp2;go_roundw
   case rel=>exact⟨g,acc++[true],_,HR.out,by omega,hvw.adv,by omega,by simp;omega,hp9,by simpa using hO9,hR9,hX9⟩
   case measure =>
    rw[hp9.left,HLF.out];exact hau
  | false =>
   have hnm:=ht;clear ht;cases ht:(u.tx.toList==[33])with
   | true =>
    have hau:(adv (u::q)).length<(u::q).length:=Qax hvw (s:=[33]) ht (by decide);have c_hK_5:=Qaa (o:=5) hK3 rfl
    go_wp2_with fail
    refine(Qaz hp3).mono ?_;rintro e w4⟨rfl,hp4,hF⟩;have hR4:=hF.heap (by omega) hR3;have hK4:=hF.heap (by omega) hK3;have hO4:=Qaj hO3 hF (fun d hd=>by omega);have hs4:=hF.size;have hX4:=hX3.trans hF;clear hR3 hK3 hO3 hX3 hp3 c_hK_5;clear hF;have c_hK_5:=Qaa (o:=5) hK4 rfl;have hop:opsL (g+1) acc (u::q)=opsL g (acc++[false]) (adv (u::q)):=by rw[opsL];simp[tx,hnm,ht]
    have HR:=Hi (hop.symm.trans HG.out);clear hop;have hcn:(w4.alloc (.cells #[.bool false] 4)).cell? ⟨w4.heap.size,0,none⟩=some (.bool false):=Qaa (Xa _ _) rfl
    go_wp2_with(at_builtin;refine appG sl254 rfl _ _ rfl (w.heap.size+1) _ _ _ rfl (hO4.alloc _) _ [.bool false] rfl rfl (QaD hcn) (fun v hv=>by rw[List.mem_singleton.1 hv];rfl) (by unfold maxLen;omega) (by omega) (by simp;omega) ?_)
    intro v9 w9 hO9 hg9 _;have hb9:=Qab w4 (.cells #[.bool false] 4);have hp9:=(hp4.below hb9).grow (hO4.alloc _) hg9 (by omega);have hR9:=QaL (Qaf hR4 _) (hO4.alloc _) hg9 (by omega);have hX9:=(hX4.alloc _).grow (hO4.alloc _) hg9 (by omega);clear hO4 hR4 hK4 hp4 hX4 hcn hb9 hg9 c_hK_5;go_wp2;go_roundw
    case rel=>exact⟨g,acc++[false],_,HR.out,by omega,hvw.adv,by omega,by simp;omega,hp9,by simpa using hO9,hR9,hX9⟩
    case measure =>
     rw[hp9.left,HLF.out];exact hau
   | false =>
    have hop:ops=(acc,u::q):=by rw[←HG.out,opsL];simp[tx,hnm,ht]
    have HR:=Hi hop;clear hop;have c_hK_5:=Qaa (o:=5) hK3 rfl
    go_upto_region 7 with(fail)
    obtain⟨w4,hw⟩:∃w4,w3.alloc (.cells #[.nilIface] 299)=w4:=⟨_,rfl⟩
    rw[hw];have hF:Below w3.heap.size w3 w4:=by rw[←hw];exact Qab _ _
    have hV4:w4.heap[w3.heap.size]? =some (.cells #[.nilIface] 299 (0,0)):=by rw[←hw];exact Xa _ _
    have hs4:w3.heap.size+1≤w4.heap.size:=by rw[←hw];simp
    clear hw;have hR4:=Bk hF hR3;have hK4:=Bk hF hK3;have hO4:=Qaj (S:=fun _=>False) hO3 (.below hF) (fun _ h=>h.elim);have hX4:=hX3.trans (.below hF);have hp4:=hp3.below hF;clear hR3 hK3 hO3 hX3 hp3 c_hK_5;clear hF
    go_wp2_with fail
    refine(Qa7 hp4).mono ?_;rintro e w5⟨rfl,hF⟩;have hR5:=Bk hF hR4;have hK5:=Bk hF hK4;have hV5:=Bk hF hV4;have hO5:=Qaj (S:=fun _=>False) hO4 (.below hF) (fun _ h=>h.elim);have hs5:=hF.size;have hX5:=hX4.trans (.below hF);have hp5:=hp4.below hF;clear hR4 hK4 hV4 hO4 hX4 hp4;clear hF
    go_upto_region 8 with(fail)
    obtain⟨w6,hw⟩:∃w6,w5.alloc (.cells u.row 122)=w6:=⟨_,rfl⟩
    rw[hw];have hF:Below w5.heap.size w5 w6:=by rw[←hw];exact Qab _ _
    have hK26:w6.heap[w5.heap.size]? =some (.cells u.row 122 (0,0)):=by rw[←hw];exact Xa _ _
    have hs6:w5.heap.size+1≤w6.heap.size:=by rw[←hw];simp
    clear hw;have hR6:=Bk hF hR5;have hK6:=Bk hF hK5;have hV6:=Bk hF hV5;have hO6:=Qaj (S:=fun _=>False) hO5 (.below hF) (fun _ h=>h.elim);have hX6:=hX5.trans (.below hF);have hp6:=hp5.below hF;clear hR5 hK5 hV5 hO5 hX5 hp5;clear hF;clear hK6;have hbr:=QfZ hO6;clear hO6;obtain⟨pv,cv,hv4,hbr⟩:∃p c,u4=.slice p acc.length c∧BoolRow w6 (w.heap.size+1) (.slice p acc.length c) acc:=by
     rcases hbr with⟨h1,h2⟩ | ⟨a1,a2,a3,a4,a5⟩
     ·exact⟨none,0,by rw[h2,h1];rfl,.inl ⟨h1,by rw[h1];rfl⟩⟩
     ·exact⟨_,_,a4,.inr ⟨a1,a2,a3,rfl,a5⟩⟩
    subst hv4;rcases List.eq_nil_or_concat acc with rfl | ⟨l,b,rfl⟩
    ·simp only[List.length_nil]at hbr
     have c_hK2_5:=Qaa (o:=5) hK26 rfl;have hBR:=hbr;clear hbr
     go_wp2_with fail
     refine(HM.out _ _ hp6 hvw (by omega) (by omega)).mono ?_;rintro e w7⟨hF,hr⟩;replace hBR:=hBR.ext hF (fun d hd=>by omega);have hR7:=hF.heap (by omega) hR6;have hV7:=hF.heap (by omega) hV6;have hK27:=hF.heap (by omega) hK26;have hs7:=hF.size;have hX7:=hX6.trans hF;clear hR6 hV6 hK26 hX6 c_hK2_5;clear hF;cases hm:member L E (u::q)with
     | none =>
      rw[hm]at hr;obtain⟨T2,v2,rfl⟩:=hr;have c_hV_0:=Qaa (o:=0) hV7 rfl;have f_hV:=Qae hV7 0;have lt_V:=Qad hV7;have HV:=Hi hV7;have c_hR_0:=Qaa (o:=0) hR7 rfl;have f_hR:=Qae hR7 0;have lt_hR:=Qad hR7;have HR2:=Hi (show unary L E ts=none by unfold Pg.unary;rw[HOP.out,HR.out];simp only[List.getLast?_nil,reduceCtorEq,false_and,if_false,hm]);have HB:=Hi hR7;clear hR7 hV7;go_wp2;refine Qai (R:=w.heap.size) _ 2 3 (by kernel_rfl) rfl rfl rfl (Qac (o:=0) (Qag HB.out (by omega) _) _) ?_
      exact Qak HR2.out ((hX7.set (p:=⟨w3.heap.size,0,none⟩) (.inr (show _≤w3.heap.size by omega)) _).set (p:=⟨w.heap.size,0,none⟩) (.inr (Xb _)) _)
     | some p2 =>
      obtain⟨x,xs⟩:=p2;rw[hm]at hr;obtain⟨T2,v2,rfl,hp2,hv7⟩:=hr;have HR2:=Hi (show unary L E ts=some (signed ([]) x,xs)by unfold Pg.unary;rw[HOP.out,HR.out];simp only[List.getLast?_nil,reduceCtorEq,false_and,if_false,hm]);clear hm;have c_hV_0:=Qaa (o:=0) hV7 rfl;have f_hV:=Qae hV7 0;have lt_hV:=Qad hV7;replace hBR:=hBR.set (o:=0) hV7 (by decide) (.iface T2 v2)
      go_upto_region 19 with(fail)
      obtain⟨w8,hw⟩:∃w8,w7.setCell ⟨w3.heap.size,0,none⟩ (.iface T2 v2)=w8:=⟨_,rfl⟩
      rw[hw];have hv8:NodeIs w8 base _ _:=hw▸hv7.store (o:=0) hV7 (by decide) (.iface T2 v2);have hR8:w8.heap[w.heap.size]? =some (.cells #[.nilIface] 299 (0,0)):=hw▸Qag (o:=0) hR7 (by omega) (.iface T2 v2);have hV8:w8.heap[w3.heap.size]? =some (.cells #[.iface T2 v2] 299 (0,0)):=hw▸Qac (o:=0) hV7 (.iface T2 v2);have hK28:w8.heap[w5.heap.size]? =some (.cells u.row 122 (0,0)):=hw▸Qag (o:=0) hK27 (by omega) (.iface T2 v2)
      have hX8:Ext (·=bp) w w8:=hw▸hX7.set (p:=⟨w3.heap.size,0,none⟩) (.inr (show w.heap.size≤w3.heap.size by omega)) (.iface T2 v2);have hs8:w7.heap.size≤w8.heap.size:=by rw[←hw];simp
      have hp8:PS w8 bp base _:=hw▸hp2.set (o:=0) (show base≤w3.heap.size by omega) (.iface T2 v2);rw[hw]at hBR;clear hv7 hR7 hV7 hK27 hX7 hp2 c_hV_0 f_hV lt_hV hw
      go_wp2_with fail
      go_loopw [11] (fun s wr=>SgRel bp base (w.heap.size) (w.heap.size+1) (w3.heap.size) w (.slice pv 0 cv) (([]:List Bool)) (x) (xs) s wr) (fun s _=>(intOf s+1).toNat)
      case atStart=>exact⟨_,_,_,rfl,by first | omega | (simp;omega),by first | omega | (simp;omega),Qdg _ _ _ hv8 (by first | rfl | (simp;omega) | simp),hV8,hp8,hBR,hR8,hX8⟩
      case round =>
       clear hv8 hV8 hp8 hR8 hX8 hBR hK28;obtain⟨wz,rfl⟩:∃wz:World,wz=wr:=⟨_,rfl⟩
       obtain⟨j,Tj,vj,rfl,hj0,hj1,hv_wz,hV_wz,hp_wz,hBR,hR_wz,hX_wz⟩:=hrel;have hsz_wz:=hX_wz.size;have ltV:=Qad hV_wz;have ltR2:=Qad hR_wz;by_cases hj:0≤j
       rotate_left
       ·obtain rfl:j=-1:=by omega
        have c_hV_0:=Qaa (o:=0) hV_wz rfl;have lt_hV:=Qad hV_wz;have c_hR_0:=Qaa (o:=0) hR_wz rfl;have f_hR:=Qae hR_wz 0;have lt_hR:=Qad hR_wz;have HR:=Hi (show unary L E ts=some (signed (([]:List Bool)) (x),xs)from HR2.out);have HB:=Hi hR_wz;clear hR_wz;go_wp2;refine Qai (R:=w.heap.size) _ 2 3 (by kernel_rfl) rfl rfl rfl (Qac (o:=0) HB.out _) ?_;exact(Qal HR.out (hX_wz.set (p:=⟨w.heap.size,0,none⟩) (.inr (show _≤w.heap.size by omega)) _) (hp_wz.set (o:=0) (by omega) _) (NodeIs.store (o:=0) ((by simpa using hv_wz)) HB.out (by decide) _))
       ·obtain⟨m,rfl⟩:=Int.eq_ofNat_of_zero_le hj
        exact absurd (show m<0 by simp at hj1;omega) (Nat.not_lt_zero _)
    ·have hb0:=QbI hbr (m:=l.length) (by simp)
     obtain⟨g9,rfl,hc9⟩:=hb0;have hc9':w6.cell? ⟨g9,l.length,none⟩=some (.bool b):=by rw[hc9];simp
     clear hc9;rw[show(l.concat b).length=l.length+1 by simp];have hln:l.length+1≤1000000:=by
      have hq:(l.concat b).length=l.length+1:=(by simp);omega
     cases b with
     | false =>
      have c_hK2_5:=Qaa (o:=5) hK26 rfl;have hBR:=hbr;clear hbr
      go_wp2_with fail
      refine(HM.out _ _ hp6 hvw (by omega) (by omega)).mono ?_;rintro e w7⟨hF,hr⟩;replace hBR:=hBR.ext hF (fun d hd=>by omega);have hR7:=hF.heap (by omega) hR6;have hV7:=hF.heap (by omega) hV6;have hK27:=hF.heap (by omega) hK26;have hs7:=hF.size;have hX7:=hX6.trans hF;clear hR6 hV6 hK26 hX6 c_hK2_5 hc9';clear hF;cases hm:member L E (u::q)with
      | none =>
       rw[hm]at hr;obtain⟨T2,v2,rfl⟩:=hr;have c_hV_0:=Qaa (o:=0) hV7 rfl;have f_hV:=Qae hV7 0;have lt_V:=Qad hV7;have HV:=Hi hV7;have c_hR_0:=Qaa (o:=0) hR7 rfl;have f_hR:=Qae hR7 0;have lt_hR:=Qad hR7;have HR2:=Hi (show unary L E ts=none by unfold Pg.unary;rw[HOP.out,HR.out];simp only[List.concat_eq_append,List.getLast?_append,List.getLast?_singleton,Option.some_or,Option.some.injEq,Xf,false_and,if_false,hm])
       have HB:=Hi hR7;clear hR7 hV7;go_wp2;refine Qai (R:=w.heap.size) _ 2 3 (by kernel_rfl) rfl rfl rfl (Qac (o:=0) (Qag HB.out (by omega) _) _) ?_;exact Qak HR2.out ((hX7.set (p:=⟨w3.heap.size,0,none⟩) (.inr (show _≤w3.heap.size by omega)) _).set (p:=⟨w.heap.size,0,none⟩) (.inr (Xb _)) _)
      | some p2 =>
       obtain⟨x,xs⟩:=p2;rw[hm]at hr;obtain⟨T2,v2,rfl,hp2,hv7⟩:=hr;have HR2:=Hi (show unary L E ts=some (signed (l.concat false) x,xs)by unfold Pg.unary;rw[HOP.out,HR.out];simp only[List.concat_eq_append,List.getLast?_append,List.getLast?_singleton,Option.some_or,Option.some.injEq,Xf,false_and,if_false,hm]);clear hm;have c_hV_0:=Qaa (o:=0) hV7 rfl;have f_hV:=Qae hV7 0;have lt_hV:=Qad hV7;replace hBR:=hBR.set (o:=0) hV7 (by decide) (.iface T2 v2)
       go_upto_region 19 with(fail)
       obtain⟨w8,hw⟩:∃w8,w7.setCell ⟨w3.heap.size,0,none⟩ (.iface T2 v2)=w8:=⟨_,rfl⟩
       rw[hw];have hv8:NodeIs w8 base _ _:=hw▸hv7.store (o:=0) hV7 (by decide) (.iface T2 v2);have hR8:w8.heap[w.heap.size]? =some (.cells #[.nilIface] 299 (0,0)):=hw▸Qag (o:=0) hR7 (by omega) (.iface T2 v2);have hV8:w8.heap[w3.heap.size]? =some (.cells #[.iface T2 v2] 299 (0,0)):=hw▸Qac (o:=0) hV7 (.iface T2 v2);have hK28:w8.heap[w5.heap.size]? =some (.cells u.row 122 (0,0)):=hw▸Qag (o:=0) hK27 (by omega) (.iface T2 v2)
       have hX8:Ext (·=bp) w w8:=hw▸hX7.set (p:=⟨w3.heap.size,0,none⟩) (.inr (show w.heap.size≤w3.heap.size by omega)) (.iface T2 v2);have hs8:w7.heap.size≤w8.heap.size:=by rw[←hw];simp
       have hp8:PS w8 bp base _:=hw▸hp2.set (o:=0) (show base≤w3.heap.size by omega) (.iface T2 v2);rw[hw]at hBR;clear hv7 hR7 hV7 hK27 hX7 hp2 c_hV_0 f_hV lt_hV hw
       go_wp2_with fail
       have hln2:(l.concat false).length=l.length+1:=by simp
       have HLN:=Hi hln2;clear hln2
       go_loopw [11] (fun s wr=>SgRel bp base (w.heap.size) (w.heap.size+1) (w3.heap.size) w (.slice (some ⟨g9,0,none⟩) (l.concat false).length cv) (l.concat false) (x) (xs) s wr) (fun s _=>(intOf s+1).toNat)
       case atStart=>exact⟨_,_,_,rfl,by first | omega | (simp;omega),by first | omega | (simp;omega),Qdg _ _ _ hv8 (by first | rfl | (simp;omega) | simp),hV8,hp8,hBR,hR8,hX8⟩
       case round =>
        clear hv8 hV8 hp8 hR8 hX8 hBR hK28;obtain⟨wz,rfl⟩:∃wz:World,wz=wr:=⟨_,rfl⟩
        obtain⟨j,Tj,vj,rfl,hj0,hj1,hv_wz,hV_wz,hp_wz,hBR,hR_wz,hX_wz⟩:=hrel;have hsz_wz:=hX_wz.size;have ltV:=Qad hV_wz;have ltR2:=Qad hR_wz;by_cases hj:0≤j
        rotate_left
        ·obtain rfl:j=-1:=by omega
         have c_hV_0:=Qaa (o:=0) hV_wz rfl;have lt_hV:=Qad hV_wz;have c_hR_0:=Qaa (o:=0) hR_wz rfl;have f_hR:=Qae hR_wz 0;have lt_hR:=Qad hR_wz;have HR:=Hi (show unary L E ts=some (signed (l.concat false) (x),xs)from HR2.out);have HB:=Hi hR_wz;clear hR_wz;go_wp2;refine Qai (R:=w.heap.size) _ 2 3 (by kernel_rfl) rfl rfl rfl (Qac (o:=0) HB.out _) ?_;exact(Qal HR.out (hX_wz.set (p:=⟨w.heap.size,0,none⟩) (.inr (show _≤w.heap.size by omega)) _) (hp_wz.set (o:=0) (by omega) _) (NodeIs.store (o:=0) ((by simpa using hv_wz)) HB.out (by decide) _))
        ·obtain⟨m,rfl⟩:=Int.eq_ofNat_of_zero_le hj
         have hm:m<(l.concat false).length:=by omega
         obtain⟨gq,hgq,hcq⟩:=QbI hBR hm;have HLm:=Hi (QeS (l.concat false) (x) hm);have hmb:m<l.length+1:=by
          have:=HLN.out;omega
         cases hgb:(l.concat false).getD m false with
         | true =>
          rw[hgb]at hcq;have c_hV_0:=Qaa (o:=0) hV_wz rfl;obtain rfl:gq=g9:=by cases hgq;rfl
          go_wp2_with fail
          refine(Qgw _ _ _).mono ?_;rintro e w9⟨rfl,hF⟩;have hv9:=hv_wz.later hF;have hR_w9:=Bk hF hR_wz;have hV9:=Bk hF hV_wz;have hs9:=hF.size;have hX_w9:=hX_wz.trans (.below hF);have hp_w9:=hp_wz.below hF;clear hv_wz hR_wz hV_wz hX_wz hp_wz c_hV_0;have hBR2:=hBR.ext (S:=fun _=>False) (.below hF) (fun _ h=>h.elim);clear hF hBR hcq;have c_hV_0:=Qaa (o:=0) hV9 rfl;have f_hV:=Qae hV9 0;have lt_hV:=Qad hV9
          have lt_hR:=Qad hR_w9;have H_V:=Hi hV9;have H_R:=Hi hR_w9;clear hV9 hR_w9;go_wp2;go_roundw
          case rel=>exact⟨_,208,_,rfl,by omega,by omega,Qc4 HLm.out hgb (hv9.store (o:=0) H_V.out (by decide) _),Qac (o:=0) H_V.out _,hp_w9.set (o:=0) (by omega) _,hBR2.set (o:=0) H_V.out (by decide) _,Qag (o:=0) H_R.out (by omega) _,hX_w9.set (p:=⟨w3.heap.size,0,none⟩) (.inr (show _≤w3.heap.size by omega)) _⟩
          case measure=>first | (simp[intOf];done) | (simp[intOf];omega)
         | false =>
          rw[hgb]at hcq;have c_hV_0:=Qaa (o:=0) hV_wz rfl;obtain rfl:gq=g9:=by cases hgq;rfl
          go_wp2_with fail
          refine(Qgx _ _ _).mono ?_;rintro e w9⟨rfl,hF⟩;have hv9:=hv_wz.later hF;have hR_w9:=Bk hF hR_wz;have hV9:=Bk hF hV_wz;have hs9:=hF.size;have hX_w9:=hX_wz.trans (.below hF);have hp_w9:=hp_wz.below hF;clear hv_wz hR_wz hV_wz hX_wz hp_wz c_hV_0;have hBR2:=hBR.ext (S:=fun _=>False) (.below hF) (fun _ h=>h.elim);clear hF hBR hcq;have c_hV_0:=Qaa (o:=0) hV9 rfl;have f_hV:=Qae hV9 0;have lt_hV:=Qad hV9
          have lt_hR:=Qad hR_w9;have H_V:=Hi hV9;have H_R:=Hi hR_w9;clear hV9 hR_w9;go_wp2;go_roundw
          case rel=>exact⟨_,209,_,rfl,by omega,by omega,Qck HLm.out hgb (hv9.store (o:=0) H_V.out (by decide) _),Qac (o:=0) H_V.out _,hp_w9.set (o:=0) (by omega) _,hBR2.set (o:=0) H_V.out (by decide) _,Qag (o:=0) H_R.out (by omega) _,hX_w9.set (p:=⟨w3.heap.size,0,none⟩) (.inr (show _≤w3.heap.size by omega)) _⟩
          case measure=>first | (simp[intOf];done) | (simp[intOf];omega)
     | true =>
      obtain⟨c_hK2_0,c_hK2_1,c_hK2_2,c_hK2_3,c_hK2_4,c_hK2_5⟩:=Cl6 hK26 rfl rfl rfl rfl rfl rfl
      go_wp2_with fail
      refine(Qg2 u _).mono ?_;rintro e w7⟨rfl,hF⟩;replace hbr:=hbr.ext (S:=fun _=>False) (.below hF) (fun _ h=>h.elim);have hR7:=Bk hF hR6;have hV7:=Bk hF hV6;have hK27:=Bk hF hK26;have hs7:=hF.size;have hX7:=hX6.trans (.below hF);have hp7:=hp6.below hF;clear hR6 hV6 hK26 hX6 hp6 c_hK2_0 c_hK2_1 c_hK2_2 c_hK2_3 c_hK2_4 c_hK2_5 hc9';clear hF;cases hi:(u.ty==2)with
      | false =>
       have hBR:=hbr;clear hbr
       go_wp2_with fail
       refine(HM.out _ _ hp7 hvw (by omega) (by omega)).mono ?_;rintro e w8⟨hF,hr⟩;replace hBR:=hBR.ext hF (fun d hd=>by omega);have hR8:=hF.heap (by omega) hR7;have hV8:=hF.heap (by omega) hV7;have hK28:=hF.heap (by omega) hK27;have hs8:=hF.size;have hX8:=hX7.trans hF;clear hR7 hV7 hK27 hX7;clear hF;cases hm:member L E (u::q)with
       | none =>
        rw[hm]at hr;obtain⟨T2,v2,rfl⟩:=hr;have c_hV_0:=Qaa (o:=0) hV8 rfl;have f_hV:=Qae hV8 0;have lt_V:=Qad hV8;have HV:=Hi hV8;have c_hR_0:=Qaa (o:=0) hR8 rfl;have f_hR:=Qae hR8 0;have lt_hR:=Qad hR8;have HR2:=Hi (show unary L E ts=none by unfold Pg.unary;rw[HOP.out,HR.out];simp only[ty,hd,hi,Xf,and_false,if_false,hm]);have HB:=Hi hR8;clear hR8 hV8;go_wp2;refine Qai (R:=w.heap.size) _ 2 3 (by kernel_rfl) rfl rfl rfl (Qac (o:=0) (Qag HB.out (by omega) _) _) ?_
        exact Qak HR2.out ((hX8.set (p:=⟨w3.heap.size,0,none⟩) (.inr (show _≤w3.heap.size by omega)) _).set (p:=⟨w.heap.size,0,none⟩) (.inr (Xb _)) _)
       | some p2 =>
        obtain⟨x,xs⟩:=p2;rw[hm]at hr;obtain⟨T2,v2,rfl,hp2,hv8⟩:=hr;have HR2:=Hi (show unary L E ts=some (signed (l.concat true) x,xs)by unfold Pg.unary;rw[HOP.out,HR.out];simp only[ty,hd,hi,Xf,and_false,if_false,hm]);clear hm;have c_hV_0:=Qaa (o:=0) hV8 rfl;have f_hV:=Qae hV8 0;have lt_hV:=Qad hV8;replace hBR:=hBR.set (o:=0) hV8 (by decide) (.iface T2 v2)
        go_upto_region 19 with(fail)
        obtain⟨w9,hw⟩:∃w9,w8.setCell ⟨w3.heap.size,0,none⟩ (.iface T2 v2)=w9:=⟨_,rfl⟩
        rw[hw];have hv9:NodeIs w9 base _ _:=hw▸hv8.store (o:=0) hV8 (by decide) (.iface T2 v2);have hR_w9:w9.heap[w.heap.size]? =some (.cells #[.nilIface] 299 (0,0)):=hw▸Qag (o:=0) hR8 (by omega) (.iface T2 v2);have hV9:w9.heap[w3.heap.size]? =some (.cells #[.iface T2 v2] 299 (0,0)):=hw▸Qac (o:=0) hV8 (.iface T2 v2);have hK29:w9.heap[w5.heap.size]? =some (.cells u.row 122 (0,0)):=hw▸Qag (o:=0) hK28 (by omega) (.iface T2 v2)
        have hX_w9:Ext (·=bp) w w9:=hw▸hX8.set (p:=⟨w3.heap.size,0,none⟩) (.inr (show w.heap.size≤w3.heap.size by omega)) (.iface T2 v2);have hs9:w8.heap.size≤w9.heap.size:=by rw[←hw];simp
        have hp_w9:PS w9 bp base _:=hw▸hp2.set (o:=0) (show base≤w3.heap.size by omega) (.iface T2 v2);rw[hw]at hBR;clear hv8 hR8 hV8 hK28 hX8 hp2 c_hV_0 f_hV lt_hV hw
        go_wp2_with fail
        have hln2:(l.concat true).length=l.length+1:=by simp
        have HLN:=Hi hln2;clear hln2
        go_loopw [11] (fun s wr=>SgRel bp base (w.heap.size) (w.heap.size+1) (w3.heap.size) w (.slice (some ⟨g9,0,none⟩) (l.concat true).length cv) (l.concat true) (x) (xs) s wr) (fun s _=>(intOf s+1).toNat)
        case atStart=>exact⟨_,_,_,rfl,by first | omega | (simp;omega),by first | omega | (simp;omega),Qdg _ _ _ hv9 (by first | rfl | (simp;omega) | simp),hV9,hp_w9,hBR,hR_w9,hX_w9⟩
        case round =>
         clear hv9 hV9 hp_w9 hR_w9 hX_w9 hBR hK29;obtain⟨wz,rfl⟩:∃wz:World,wz=wr:=⟨_,rfl⟩
         obtain⟨j,Tj,vj,rfl,hj0,hj1,hv_wz,hV_wz,hp_wz,hBR,hR_wz,hX_wz⟩:=hrel;have hsz_wz:=hX_wz.size;have ltV:=Qad hV_wz;have ltR2:=Qad hR_wz;by_cases hj:0≤j
         rotate_left
         ·obtain rfl:j=-1:=by omega
          have c_hV_0:=Qaa (o:=0) hV_wz rfl;have lt_hV:=Qad hV_wz;have c_hR_0:=Qaa (o:=0) hR_wz rfl;have f_hR:=Qae hR_wz 0;have lt_hR:=Qad hR_wz;have HR:=Hi (show unary L E ts=some (signed (l.concat true) (x),xs)from HR2.out);have HB:=Hi hR_wz;clear hR_wz;go_wp2;refine Qai (R:=w.heap.size) _ 2 3 (by kernel_rfl) rfl rfl rfl (Qac (o:=0) HB.out _) ?_;exact(Qal HR.out (hX_wz.set (p:=⟨w.heap.size,0,none⟩) (.inr (show _≤w.heap.size by omega)) _) (hp_wz.set (o:=0) (by omega) _) (NodeIs.store (o:=0) ((by simpa using hv_wz)) HB.out (by decide) _))
         ·obtain⟨m,rfl⟩:=Int.eq_ofNat_of_zero_le hj
          have hm:m<(l.concat true).length:=by omega
          obtain⟨gq,hgq,hcq⟩:=QbI hBR hm;have HLm:=Hi (QeS (l.concat true) (x) hm);have hmb:m<l.length+1:=by
           have:=HLN.out;omega
          cases hgb:(l.concat true).getD m false with
          | true =>
           rw[hgb]at hcq;have c_hV_0:=Qaa (o:=0) hV_wz rfl;obtain rfl:gq=g9:=by cases hgq;rfl
           go_wp2_with fail
           refine(Qgw _ _ _).mono ?_;rintro e w10⟨rfl,hF⟩;have hv10:=hv_wz.later hF;have hR10:=Bk hF hR_wz;have hV10:=Bk hF hV_wz;have hs10:=hF.size;have hX10:=hX_wz.trans (.below hF);have hp10:=hp_wz.below hF;clear hv_wz hR_wz hV_wz hX_wz hp_wz c_hV_0;have hBR2:=hBR.ext (S:=fun _=>False) (.below hF) (fun _ h=>h.elim);clear hF hBR hcq;have c_hV_0:=Qaa (o:=0) hV10 rfl;have f_hV:=Qae hV10 0;have lt_hV:=Qad hV10
           have lt_hR:=Qad hR10;have H_V:=Hi hV10;have H_R:=Hi hR10;clear hV10 hR10;go_wp2;go_roundw
           case rel=>exact⟨_,208,_,rfl,by omega,by omega,Qc4 HLm.out hgb (hv10.store (o:=0) H_V.out (by decide) _),Qac (o:=0) H_V.out _,hp10.set (o:=0) (by omega) _,hBR2.set (o:=0) H_V.out (by decide) _,Qag (o:=0) H_R.out (by omega) _,hX10.set (p:=⟨w3.heap.size,0,none⟩) (.inr (show _≤w3.heap.size by omega)) _⟩
           case measure=>first | (simp[intOf];done) | (simp[intOf];omega)
          | false =>
           rw[hgb]at hcq;have c_hV_0:=Qaa (o:=0) hV_wz rfl;obtain rfl:gq=g9:=by cases hgq;rfl
           go_wp2_with fail
           refine(Qgx _ _ _).mono ?_;rintro e w10⟨rfl,hF⟩;have hv10:=hv_wz.later hF;have hR10:=Bk hF hR_wz;have hV10:=Bk hF hV_wz;have hs10:=hF.size;have hX10:=hX_wz.trans (.below hF);have hp10:=hp_wz.below hF;clear hv_wz hR_wz hV_wz hX_wz hp_wz c_hV_0;have hBR2:=hBR.ext (S:=fun _=>False) (.below hF) (fun _ h=>h.elim);clear hF hBR hcq;have c_hV_0:=Qaa (o:=0) hV10 rfl;have f_hV:=Qae hV10 0;have lt_hV:=Qad hV10
           have lt_hR:=Qad hR10;have H_V:=Hi hV10;have H_R:=Hi hR10;clear hV10 hR10;go_wp2;go_roundw
           case rel=>exact⟨_,209,_,rfl,by omega,by omega,Qck HLm.out hgb (hv10.store (o:=0) H_V.out (by decide) _),Qac (o:=0) H_V.out _,hp10.set (o:=0) (by omega) _,hBR2.set (o:=0) H_V.out (by decide) _,Qag (o:=0) H_R.out (by omega) _,hX10.set (p:=⟨w3.heap.size,0,none⟩) (.inr (show _≤w3.heap.size by omega)) _⟩
           case measure=>first | (simp[intOf];done) | (simp[intOf];omega)
      | true =>
       have htz:=hp7.sz
       go_wp2_with fail
       refine(Qaz hp7).mono ?_;rintro e w8⟨rfl,hp8,hF⟩;replace hbr:=hbr.ext hF (fun d hd=>by omega);have hcv:l.length≤cv:=by have:=Qga hbr (by simp);simp at this;omega
       have hR8:=hF.heap (by omega) hR7;have hV8:=hF.heap (by omega) hV7;have hK28:=hF.heap (by omega) hK27;have hs8:=hF.size;have hX8:=hX7.trans hF;clear hR7 hV7 hK27 hX7 hp7;clear hF;have c_hK2_5:=Qaa (o:=5) hK28 rfl;have hsz1:((⟨#[45]⟩:ByteArray)++u.tx).size≤1000001:=by rw[ByteArray.size_append];show 1+_≤_;omega
       go_wp2_with fail
       refine(hL.int ((⟨#[45]⟩:ByteArray)++u.tx) _ hp8.g (by omega) hsz1 hp8.hbs).mono ?_;rintro e w9⟨hF,hr⟩;replace hbr:=hbr.ext (S:=fun _=>False) (.below hF) (fun _ h=>h.elim);have hR_w9:=Bk hF hR8;have hV9:=Bk hF hV8;have hK29:=Bk hF hK28;have hs9:=hF.size;have hX_w9:=hX8.trans (.below hF);have hp_w9:=hp8.below hF;clear hR8 hV8 hK28 hX8 hp8 c_hK2_5;clear hF;have hgl:(l.concat true).getLast? =some true:=by simp
       cases hm:L.int ((⟨#[45]⟩:ByteArray)++u.tx)with
       | none =>
        rw[hm]at hr;obtain⟨n2,T2,v2,rfl⟩:=hr;have c_hR_0:=Qaa (o:=0) hR_w9 rfl;have f_hR:=Qae hR_w9 0;have lt_hR:=Qad hR_w9;have HR:=Hi (show unary L E ts=none by unfold Pg.unary;rw[HOP.out,HR.out];simp only[hgl,ty,hd,hi,hm,and_self,if_true]);have HB:=Hi hR_w9;clear hR_w9;go_wp2;refine Qai (R:=w.heap.size) _ 2 3 (by kernel_rfl) rfl rfl rfl (Qac (o:=0) HB.out _) ?_;exact(Qak HR.out (hX_w9.set (p:=⟨w.heap.size,0,none⟩) (.inr (show _≤w.heap.size by omega)) _))
       | some n =>
        rw[hm]at hr;obtain rfl:=hr;have HR2:=Hi (show unary L E ts=some (signed l (.val (.long n)),adv (u::q))by unfold Pg.unary;rw[HOP.out,HR.out];simp only[hgl,ty,hd,hi,hm,and_self,if_true];simp);clear hm hgl
        go_wp2_with fail
        refine(n247_c _ _).mono ?_;rintro e w10⟨rfl,hF⟩;replace hbr:=hbr.ext (S:=fun _=>False) (.below hF) (fun _ h=>h.elim);have hR10:=Bk hF hR_w9;have hV10:=Bk hF hV9;have hK210:=Bk hF hK29;have hs10:=hF.size;have hX10:=hX_w9.trans (.below hF);have hp10:=hp_w9.below hF;clear hR_w9 hV9 hK29 hX_w9 hp_w9;clear hF;have hBR:=QeT hbr;clear hbr;have hv10:NodeIs w10 base (.iface 182 (.agg #[.iface 253 (.int .i64 n)])) (.val (.long n)):=.val (.long n)
        have c_hV_0:=Qaa (o:=0) hV10 rfl;have f_hV:=Qae hV10 0;have lt_hV:=Qad hV10;replace hBR:=hBR.set (o:=0) hV10 (by decide) (.iface 182 (.agg #[.iface 253 (.int .i64 n)]))
        go_upto_region 14 with(fail)
        obtain⟨w11,hw⟩:∃w11,w10.setCell ⟨w3.heap.size,0,none⟩ (.iface 182 (.agg #[.iface 253 (.int .i64 n)]))=w11:=⟨_,rfl⟩
        rw[hw];have hv11:NodeIs w11 base _ _:=hw▸hv10.store (o:=0) hV10 (by decide) (.iface 182 (.agg #[.iface 253 (.int .i64 n)]));have hR11:w11.heap[w.heap.size]? =some (.cells #[.nilIface] 299 (0,0)):=hw▸Qag (o:=0) hR10 (by omega) (.iface 182 (.agg #[.iface 253 (.int .i64 n)]));have hV11:w11.heap[w3.heap.size]? =some (.cells #[.iface 182 (.agg #[.iface 253 (.int .i64 n)])] 299 (0,0)):=hw▸Qac (o:=0) hV10 (.iface 182 (.agg #[.iface 253 (.int .i64 n)]))
        have hK211:w11.heap[w5.heap.size]? =some (.cells u.row 122 (0,0)):=hw▸Qag (o:=0) hK210 (by omega) (.iface 182 (.agg #[.iface 253 (.int .i64 n)]));have hX11:Ext (·=bp) w w11:=hw▸hX10.set (p:=⟨w3.heap.size,0,none⟩) (.inr (show w.heap.size≤w3.heap.size by omega)) (.iface 182 (.agg #[.iface 253 (.int .i64 n)]));have hs11:w10.heap.size≤w11.heap.size:=by rw[←hw];simp
        have hp11:PS w11 bp base _:=hw▸hp10.set (o:=0) (show base≤w3.heap.size by omega) (.iface 182 (.agg #[.iface 253 (.int .i64 n)]));rw[hw]at hBR;clear hv10 hR10 hV10 hK210 hX10 hp10 c_hV_0 f_hV lt_hV hw
        go_wp2_with fail
        go_loopw [11] (fun s wr=>SgRel bp base (w.heap.size) (w.heap.size+1) (w3.heap.size) w (.slice (some ⟨g9,0,none⟩) l.length cv) (l) ((.val (.long n))) (adv (u::q)) s wr) (fun s _=>(intOf s+1).toNat)
        case atStart=>exact⟨_,_,_,rfl,by first | omega | (simp;omega),by first | omega | (simp;omega),Qdg _ _ _ hv11 (by first | rfl | (simp;omega) | simp),hV11,hp11,hBR,hR11,hX11⟩
        case round =>
         clear hv11 hV11 hp11 hR11 hX11 hBR hK211;obtain⟨wz,rfl⟩:∃wz:World,wz=wr:=⟨_,rfl⟩
         obtain⟨j,Tj,vj,rfl,hj0,hj1,hv_wz,hV_wz,hp_wz,hBR,hR_wz,hX_wz⟩:=hrel;have hsz_wz:=hX_wz.size;have ltV:=Qad hV_wz;have ltR2:=Qad hR_wz;by_cases hj:0≤j
         rotate_left
         ·obtain rfl:j=-1:=by omega
          have c_hV_0:=Qaa (o:=0) hV_wz rfl;have lt_hV:=Qad hV_wz;have c_hR_0:=Qaa (o:=0) hR_wz rfl;have f_hR:=Qae hR_wz 0;have lt_hR:=Qad hR_wz;have HR:=Hi (show unary L E ts=some (signed (l) ((.val (.long n))),adv (u::q))from HR2.out);have HB:=Hi hR_wz;clear hR_wz;go_wp2;refine Qai (R:=w.heap.size) _ 2 3 (by kernel_rfl) rfl rfl rfl (Qac (o:=0) HB.out _) ?_;exact(Qal HR.out (hX_wz.set (p:=⟨w.heap.size,0,none⟩) (.inr (show _≤w.heap.size by omega)) _) (hp_wz.set (o:=0) (by omega) _) (NodeIs.store (o:=0) ((by simpa using hv_wz)) HB.out (by decide) _))
         ·obtain⟨m,rfl⟩:=Int.eq_ofNat_of_zero_le hj
          have hm:m<(l).length:=by omega
          obtain⟨gq,hgq,hcq⟩:=QbI hBR hm;have HLm:=Hi (QeS (l) ((.val (.long n))) hm);cases hgb:(l).getD m false with
          | true =>
           rw[hgb]at hcq;have c_hV_0:=Qaa (o:=0) hV_wz rfl;obtain rfl:gq=g9:=by cases hgq;rfl
           go_wp2_with fail
           refine(Qgw _ _ _).mono ?_;rintro e w12⟨rfl,hF⟩;have hv12:=hv_wz.later hF;have hR12:=Bk hF hR_wz;have hV12:=Bk hF hV_wz;have hs12:=hF.size;have hX12:=hX_wz.trans (.below hF);have hp12:=hp_wz.below hF;clear hv_wz hR_wz hV_wz hX_wz hp_wz c_hV_0;have hBR2:=hBR.ext (S:=fun _=>False) (.below hF) (fun _ h=>h.elim);clear hF hBR hcq;have c_hV_0:=Qaa (o:=0) hV12 rfl;have f_hV:=Qae hV12 0;have lt_hV:=Qad hV12
           have lt_hR:=Qad hR12;have H_V:=Hi hV12;have H_R:=Hi hR12;clear hV12 hR12;go_wp2;go_roundw
           case rel=>exact⟨_,208,_,rfl,by omega,by omega,Qc4 HLm.out hgb (hv12.store (o:=0) H_V.out (by decide) _),Qac (o:=0) H_V.out _,hp12.set (o:=0) (by omega) _,hBR2.set (o:=0) H_V.out (by decide) _,Qag (o:=0) H_R.out (by omega) _,hX12.set (p:=⟨w3.heap.size,0,none⟩) (.inr (show _≤w3.heap.size by omega)) _⟩
           case measure=>first | (simp[intOf];done) | (simp[intOf];omega)
          | false =>
           rw[hgb]at hcq;have c_hV_0:=Qaa (o:=0) hV_wz rfl;obtain rfl:gq=g9:=by cases hgq;rfl
           go_wp2_with fail
           refine(Qgx _ _ _).mono ?_;rintro e w12⟨rfl,hF⟩;have hv12:=hv_wz.later hF;have hR12:=Bk hF hR_wz;have hV12:=Bk hF hV_wz;have hs12:=hF.size;have hX12:=hX_wz.trans (.below hF);have hp12:=hp_wz.below hF;clear hv_wz hR_wz hV_wz hX_wz hp_wz c_hV_0;have hBR2:=hBR.ext (S:=fun _=>False) (.below hF) (fun _ h=>h.elim);clear hF hBR hcq;have c_hV_0:=Qaa (o:=0) hV12 rfl;have f_hV:=Qae hV12 0;have lt_hV:=Qad hV12
           have lt_hR:=Qad hR12;have H_V:=Hi hV12;have H_R:=Hi hR12;clear hV12 hR12;go_wp2;go_roundw
           case rel=>exact⟨_,209,_,rfl,by omega,by omega,Qck HLm.out hgb (hv12.store (o:=0) H_V.out (by decide) _),Qac (o:=0) H_V.out _,hp12.set (o:=0) (by omega) _,hBR2.set (o:=0) H_V.out (by decide) _,Qag (o:=0) H_R.out (by omega) _,hX12.set (p:=⟨w3.heap.size,0,none⟩) (.inr (show _≤w3.heap.size by omega)) _⟩
           case measure=>first | (simp[intOf];done) | (simp[intOf];omega)
def AccP(bp base:Nat)(w:World)(lhs:Value)(ts:Toks)(r:Option (Option (Ex×Toks)))(e:Ending)(w':World):Prop :=
 Ext (·=bp) w w'∧match r with
 | none=>∃T,∃v:EVal base w' T,e=.returned (.tuple #[.agg #[.nilIface],.bool false,.iface T v.1])
 | some none=>e=.returned (.tuple #[.agg #[lhs],.bool false,.nilIface])∧PS w' bp base ts
 | some (some (x,us))=>∃T v,e=.returned (.tuple #[.agg #[.iface T v],.bool true,.nilIface])∧PS w' bp base us∧NodeIs w' base (.iface T v) x
def AccC(f:FuncId)(m:Ex→Toks→Option (Option (Ex×Toks)))(bp base N:Nat):Prop :=
 ∀w ts T v x,PS w bp base ts→Wf ts→ts.length≤N→base≤w.heap.size→NodeIs w base (.iface T v) x→Calls prog f #[.pointer (some ⟨bp,0,none⟩),.agg #[.iface T v]] w (AccP bp base w (.iface T v) ts (m x ts))
def MemRel(L:Lex)(E:Toks→Option (Ex×Toks))(bp base N R B:Nat)(w:World)(Rm:Option (Ex×Toks))(s:Value)(wr:World):Prop :=
 ∃g y vs T v,s=.nilIface∧memL L E g y vs=Rm∧vs.length<g∧Wf vs∧vs.length≤N∧PS wr bp base vs∧NodeIs wr base (.iface T v) y∧wr.heap[B]? =some (.cells #[.iface T v] 299 (0,0))∧wr.heap[R]? =some (.cells #[.nilIface] 299 (0,0))∧Ext (·=bp) w wr
theorem member_w{L:Lex}{E:Toks→Option (Ex×Toks)}{bp base N:Nat}(hE:Sh E)(hP:FnC 257 (primary L E) bp base N)(hA:AccC 258 (access L E) bp base N):FnC 248 (member L E) bp base N:=by
 intro w ts hp hwf hN hbs;have hbb:=hp.hbp;have h15:=hp.h15;have hlen:=hp.len;have HP:=Hi hP;have HA:=Hi hA;have HE:=Hi hE;clear hP hA hE;go_enter func248,ntmps248
 go_upto_region 1 with(fail)
 obtain⟨w1,hw⟩:∃w1,(w.alloc (.cells #[.nilIface] 299))=w1:=⟨_,rfl⟩
 rw[hw];have hF:Below w.heap.size w w1:=by rw[←hw];exact Qab w _
 have hR1:w1.heap[w.heap.size]? =some (.cells #[.nilIface] 299 (0,0)):=by rw[←hw];exact Qah (by simp) _
 have hs1:w.heap.size+1≤w1.heap.size:=by rw[←hw];simp
 clear hw;have hX1:Ext (·=bp) w w1:=.below hF;have hp_w1:=hp.below hF;clear hp;clear hF
 go_wp2_with fail
 refine(HP.out _ _ hp_w1 hwf hN (by omega)).mono ?_;rintro e w2⟨hF,hr⟩;have hR2:=hF.heap (by omega) hR1;have hs2:=hF.size;have hX2:=hX1.trans hF;clear hR1 hX1;clear hF;cases hm:primary L E ts with
 | none =>
  rw[hm]at hr;obtain⟨T,v,rfl⟩:=hr;have c_hR_0:=Qaa (o:=0) hR2 rfl;have f_hR:∀o,(w2.alloc o).frozen? ⟨w.heap.size,0,none⟩=false:=fun o=>Qae (Qaf hR2 o) 0
  have lt_hR:=Qad hR2;have HR:=Hi (show member L E ts=none by unfold Pg.member;rw[hm]);have HB:=Hi hR2;clear hR2;go_wp2;refine Qai (R:=w.heap.size) _ 2 3 (by kernel_rfl) rfl rfl rfl (Qaf (Qac (o:=0) HB.out _) _) ?_;exact(Qak HR.out ((hX2.set (p:=⟨w.heap.size,0,none⟩) (.inr (show _≤w.heap.size by omega)) _).alloc _))
 | some p =>
  obtain⟨x,us⟩:=p;rw[hm]at hr;obtain⟨T,v,rfl,hp1,hn2⟩:=hr;have hsh:=QcS HE.out _ _ _ hwf hm;have hwu:=hsh.1.wf hwf;have hul:=hsh.2;have HF:=Hi (show member L E ts=memL L E (us.length+1) x us by unfold Pg.member;rw[hm]);clear hm hsh
  go_upto_region 4 with(fail)
  obtain⟨w3,hw⟩:∃w3,w2.alloc (.cells #[.iface T v] 299)=w3:=⟨_,rfl⟩
  rw[hw];have hF:Below w2.heap.size w2 w3:=by rw[←hw];exact Qab _ _
  have hB3:w3.heap[w2.heap.size]? =some (.cells #[.iface T v] 299 (0,0)):=by rw[←hw];exact Xa _ _
  have hs3:w2.heap.size+1≤w3.heap.size:=by rw[←hw];simp
  clear hw;have hn3:=hn2.later hF;have hR3:=Bk hF hR2;have hX3:=hX2.trans (.below hF);have hp3:=hp1.below hF;clear hn2 hR2 hX2 hp1;clear hF
  go_loopw [5] (fun s wr=>MemRel L E bp base N (w.heap.size) (w2.heap.size) w (memL L E (us.length+1) x us) s wr) (fun _ wr=>left wr bp)
  case atStart=>exact⟨us.length+1,x,us,_,_,rfl,rfl,by omega,hwu,by omega,hp3,hn3,hB3,hR3,hX3⟩
  case round =>
   clear hp3 hn3 hB3 hR3 hX3;obtain⟨wo,rfl⟩:∃wo:World,wo=wr:=⟨_,rfl⟩
   obtain⟨g,y,vs,Ty,vy,rfl,hg,hgl,hvw,hvN,hp_wo,hn_wo,hB_wo,hR_wo,hX_wo⟩:=hrel;have HG:=Hi hg;clear hg;cases g with
   | zero=>omega
   | succ g =>
   have HLF:=Hi hp_wo.left;have hsz_wo:=hX_wo.size;have ltR:=Qad hR_wo;have ltB:=Qad hB_wo;have c_hB_0:=Qaa (o:=0) hB_wo rfl
   go_wp2_with fail
   refine(HA.out _ _ _ _ _ hp_wo hvw hvN (by omega) hn_wo).mono ?_;rintro e w4⟨hF,hr⟩;have hn4:=hn_wo.keep hF (fun d hd=>by omega);have hR4:=hF.heap (by omega) hR_wo;have hB4:=hF.heap (by omega) hB_wo;have hs4:=hF.size;have hX4:=hX_wo.trans hF;clear hn_wo hR_wo hB_wo hX_wo c_hB_0;clear hF;cases hm:access L E y vs with
   | none =>
    rw[hm]at hr;obtain⟨T2,v2,rfl⟩:=hr;have c_hB_0:=Qaa (o:=0) hB4 rfl;have f_hB:=Qae hB4 0;have lt_hB:=Qad hB4;have HB2:=Hi hB4;have HR3:=Hi (show member L E ts=none by rw[HF.out,←HG.out,memL,hm]);clear hm;have c_hR_0:=Qaa (o:=0) hR4 rfl;have f_hR:=Qae hR4 0;have lt_hR:=Qad hR4;have HRR:=Hi hR4;clear hR4 hB4;go_wp2;refine Qai (R:=w.heap.size) _ 2 3 (by kernel_rfl) rfl rfl rfl (Qac (o:=0) (Qag HRR.out (by omega) _) _) ?_
    exact Qak HR3.out ((hX4.set (p:=⟨w2.heap.size,0,none⟩) (.inr (show _≤w2.heap.size by omega)) _).set (p:=⟨w.heap.size,0,none⟩) (.inr (Xb _)) _)
   | some o =>
    cases o with
    | none =>
     rw[hm]at hr;obtain⟨rfl,hp9⟩:=hr;have HR3:=Hi (show member L E ts=some (y,vs)by rw[HF.out,←HG.out,memL,hm]);clear hm;have c_hB_0:=Qaa (o:=0) hB4 rfl;have f_hB:=Qae hB4 0;have lt_hB:=Qad hB4;have lt_hR:=Qad hR4
     go_upto_region 6 with(fail)
     obtain⟨w5,hw⟩:∃w5,w4.setCell ⟨w2.heap.size,0,none⟩ (.iface Ty vy)=w5:=⟨_,rfl⟩
     rw[hw];have hn5:NodeIs w5 base _ _:=hw▸hn4.store (o:=0) hB4 (by decide) (.iface Ty vy);have hR5:w5.heap[w.heap.size]? =some (.cells #[.nilIface] 299 (0,0)):=hw▸Qag (o:=0) hR4 (by omega) (.iface Ty vy);have hB5:w5.heap[w2.heap.size]? =some (.cells #[.iface Ty vy] 299 (0,0)):=hw▸Qac (o:=0) hB4 (.iface Ty vy);have hX5:Ext (·=bp) w w5:=hw▸hX4.set (p:=⟨w2.heap.size,0,none⟩) (.inr (show w.heap.size≤w2.heap.size by omega)) (.iface Ty vy)
     have hs5:w4.heap.size≤w5.heap.size:=by rw[←hw];simp
     have hp5:PS w5 bp base _:=hw▸hp9.set (o:=0) (show base≤w2.heap.size by omega) (.iface Ty vy);clear hn4 hR4 hB4 hX4 hp9 c_hB_0 f_hB lt_hB lt_hR hw;have c_hB_0:=Qaa (o:=0) hB5 rfl;have c_hR_0:=Qaa (o:=0) hR5 rfl;have f_hR:=Qae hR5 0;have lt_hR:=Qad hR5;have HR:=Hi (HR3.out);have HB:=Hi hR5;clear hR5;go_wp2;refine Qai (R:=w.heap.size) _ 2 3 (by kernel_rfl) rfl rfl rfl (Qac (o:=0) HB.out _) ?_;exact(Qal HR.out (hX5.set (p:=⟨w.heap.size,0,none⟩) (.inr (show _≤w.heap.size by omega)) _) (hp5.set (o:=0) (by omega) _) (NodeIs.store (o:=0) (hn5) HB.out (by decide) _))
    | some p2 =>
     obtain⟨z,zs⟩:=p2;rw[hm]at hr;obtain⟨T2,v2,rfl,hp9,hz4⟩:=hr;have hsh:=Qdm HE.out _ _ _ _ hvw hm;have hwz:=hsh.1.wf hvw;have hzl:=hsh.2;have HG2:=Hi (show memL L E g z zs=memL L E (us.length+1) x us by rw[←HG.out,memL,hm]);clear hm hsh;clear hn4;have c_hB_0:=Qaa (o:=0) hB4 rfl;have f_hB:=Qae hB4 0;have lt_hB:=Qad hB4;have lt_hR:=Qad hR4
     go_upto_region 6 with(fail)
     obtain⟨w5,hw⟩:∃w5,w4.setCell ⟨w2.heap.size,0,none⟩ (.iface T2 v2)=w5:=⟨_,rfl⟩
     rw[hw];have hz5:NodeIs w5 base _ _:=hw▸hz4.store (o:=0) hB4 (by decide) (.iface T2 v2);have hR5:w5.heap[w.heap.size]? =some (.cells #[.nilIface] 299 (0,0)):=hw▸Qag (o:=0) hR4 (by omega) (.iface T2 v2);have hB5:w5.heap[w2.heap.size]? =some (.cells #[.iface T2 v2] 299 (0,0)):=hw▸Qac (o:=0) hB4 (.iface T2 v2);have hX5:Ext (·=bp) w w5:=hw▸hX4.set (p:=⟨w2.heap.size,0,none⟩) (.inr (show w.heap.size≤w2.heap.size by omega)) (.iface T2 v2)
     have hs5:w4.heap.size≤w5.heap.size:=by rw[←hw];simp
     have hp5:PS w5 bp base _:=hw▸hp9.set (o:=0) (show base≤w2.heap.size by omega) (.iface T2 v2);clear hz4 hR4 hB4 hX4 hp9 c_hB_0 f_hB lt_hB lt_hR hw;have c_hB_0:=Qaa (o:=0) hB5 rfl;go_wp2;go_roundw
     case rel=>exact⟨g,z,zs,_,_,rfl,HG2.out,by omega,hwz,by omega,hp5,hz5,hB5,hR5,hX5⟩
     case measure =>
      rw[hp5.left,HLF.out];exact hzl
def NodesIs(w:World)(lo:Nat)(vals:List Value)(l:List Ex):Prop :=
 vals.length=l.length∧∀(i:Nat)(a:Ex),l[i]? =some a→∃(T:TypeId)(v:Value),vals[i]? =some (Value.iface T v)∧NodeIs w lo (.iface T v) a
theorem NodesIs.nil{w:World}{lo:Nat}:NodesIs w lo [] []:=⟨rfl,fun i a h=>by simp at h⟩
theorem NodesIs.ext{w w':World}{lo:Nat}{S:Nat→Prop}{vals:List Value}{l:List Ex}(h:NodesIs w lo vals l)(he:Ext S w w')(hs:∀d,S d→Soft w lo d):NodesIs w' lo vals l :=
 ⟨h.1,fun i a hi=>by obtain⟨T,v,h1,h2⟩:=h.2 i a hi;exact⟨T,v,h1,h2.ext he hs⟩⟩
theorem NodesIs.keep{w w':World}{lo:Nat}{S:Nat→Prop}{vals:List Value}{l:List Ex}(h:NodesIs w lo vals l)(he:Ext S w w')(hs:∀d,S d→d<lo):NodesIs w' lo vals l:=h.ext he (fun d hd=>.inl (hs d hd))
theorem NodesIs.later{w w':World}{lo:Nat}{vals:List Value}{l:List Ex}(h:NodesIs w lo vals l)(hb:Below w.heap.size w w'):NodesIs w' lo vals l:=h.ext (S:=fun _=>False) (.below hb) (fun _ k=>k.elim)
theorem NodesIs.grow{w w':World}{lo:Nat}{vals:List Value}{l:List Ex}{base:Nat}{e:TypeId}{size:Nat}{v:Value}{n:Nat}{xs:List Value}(h:NodesIs w lo vals l)(ho:w.ownsRow base e size v n xs)(hg:w.grownBy w' v.ownBlock)(he:e≠136∧e≠221∧e≠316)(he':e≠348:=by decide):NodesIs w' lo vals l :=
 ⟨h.1,fun i a hi=>by obtain⟨T,v,h1,h2⟩:=h.2 i a hi;exact⟨T,v,h1,h2.grow ho hg he he'⟩⟩
theorem NodesIs.snoc{w:World}{lo:Nat}{vals:List Value}{l:List Ex}{T:TypeId}{v:Value}{x:Ex}(h:NodesIs w lo vals l)(hx:NodeIs w lo (.iface T v) x):NodesIs w lo (vals++[.iface T v]) (l++[x]):=by
 refine⟨by simp[h.1],fun i a hi=>?_⟩;by_cases hl:i<l.length
 ·rw[List.getElem?_append_left hl]at hi
  obtain⟨T,v,h1,h2⟩:=h.2 i a hi;exact⟨T,v,by rw[List.getElem?_append_left (by have:=h.1;omega)];exact h1,h2⟩
 ·rw[List.getElem?_append_right (by omega)]at hi
  have h0:i-l.length=0:=by
   rcases Nat.eq_zero_or_pos (i-l.length)with h | h
   ·exact h
   ·rw[List.getElem?_eq_none (by simp only[List.length_singleton];omega)]at hi;cases hi
  rw[h0]at hi;simp at hi;subst hi;exact⟨T,v,by rw[List.getElem?_append_right (by have:=h.1;omega),show i-vals.length=0 by have:=h.1;omega];rfl,hx⟩
def ListP(bp base:Nat)(w:World)(r:Option (List Ex×Toks))(e:Ending)(w':World):Prop :=
 Ext (·=bp) w w'∧match r with
 | none=>∃s T,∃v:EVal base w' T,e=.returned (.tuple #[s,.iface T v.1])
 | some (l,us)=>∃s vals,e=.returned (.tuple #[s,.nilIface])∧PS w' bp base us∧w'.ownsRow w.heap.size 299 1 s l.length vals∧NodesIs w' base vals l∧l.length≤1000000
def Qg8(close:ByteArray)(m:Toks→Option (List Ex×Toks))(bp base N:Nat):Prop :=
 ∀w ts,PS w bp base ts→Wf ts→ts.length≤N→base≤w.heap.size→Calls prog 278 #[.pointer (some ⟨bp,0,none⟩),.string close] w (ListP bp base w (m ts))
def LsRel(m:Nat→List Ex→Toks→Option (List Ex×Toks))(bp base N B:Nat)(w:World)(Rm:Option (List Ex×Toks))(s:Value)(wr:World):Prop :=
 ∃g acc vals vs,m g acc vs=Rm∧vs.length<g∧Wf vs∧vs.length≤N∧acc.length+vs.length≤N∧PS wr bp base vs∧wr.ownsRow B 299 1 s acc.length vals∧NodesIs wr base vals acc∧Ext (·=bp) w wr
theorem Qg9{L:Lex}{E:Toks→Option (Ex×Toks)}{bp base N:Nat}(hE:Sh E)(hC:FnC 149 E bp base N):Qg8 (⟨#[41]⟩:ByteArray) (Qbr E [41]) bp base N:=by
 intro w ts hp hwf hN hbs;have hbb:=hp.hbp;have h15:=hp.h15;have hlen:=hp.len;have HC:=Hi hC;have HE:=Hi hE;clear hC hE;have HF:=Hi (show Qbr E [41] ts=QaE E [41] (ts.length+1) [] ts from rfl);go_enter func278,ntmps278
 go_upto_region 2 with(fail)
 go_loopw [6] (fun s wr=>LsRel (QaE E [41]) bp base ts.length (w.heap.size) w (QaE E [41] (ts.length+1) [] ts) s wr) (fun _ wr=>left wr bp)
 case atStart=>exact⟨ts.length+1,[],[],ts,rfl,by omega,hwf,by omega,by simp,hp,⟨rfl,.inl ⟨rfl,rfl⟩⟩,.nil,.refl _ _⟩
 case round =>
  clear hp;obtain⟨wo,rfl⟩:∃wo:World,wo=wr:=⟨_,rfl⟩
  rename_i sops _;obtain⟨g,acc,vals,vs,hg,hgl,hvw,hvN,haN,hp_wo,hO_wo,hm_wo,hX_wo⟩:=hrel;have HG:=Hi hg;clear hg;cases g with
  | zero=>omega
  | succ g =>
  obtain⟨u,q,rfl⟩:∃u q,vs=u::q:=by cases vs with | nil=>exact absurd rfl hp_wo.ne | cons u q=>exact⟨u,q,rfl⟩
  have HLF:=Hi hp_wo.left;have hsz_wo:=hX_wo.size;have hul:0<(u::q).length:=by simp
  go_wp2_with fail
  refine(Qa7 hp_wo).mono ?_;rintro e w1⟨rfl,hF⟩;have hm1:=hm_wo.later hF;have hO1:=Qaj (S:=fun _=>False) hO_wo (.below hF) (fun _ h=>h.elim);have hs1:=hF.size;have hX1:=hX_wo.trans (.below hF);have hp1:=hp_wo.below hF;clear hm_wo hO_wo hX_wo hp_wo;clear hF;cases ht:(u.tx.toList==[41])with
  | true =>
   have HR:=Hi (show Qbr E [41] ts=some (acc,u::q)by rw[HF.out,←HG.out,QaE];simp[tx,ht]);go_wp2
   go_ret2
   rw[HR.out];exact⟨hX1,_,_,rfl,hp1,hO1,hm1,by omega⟩
  | false =>
   have hnc:=ht;clear ht
   go_wp2_with fail
   refine(HC.out _ _ hp1 hvw (by omega) (by omega)).mono ?_;rintro e w2⟨hF,hr⟩;have hm2:=hm1.keep hF (fun d hd=>by omega);have hO2:=Qaj hO1 hF (fun d hd=>by omega);have hs2:=hF.size;have hX2:=hX1.trans hF;clear hm1 hO1 hX1;clear hF;cases hm:E (u::q)with
   | none =>
    rw[hm]at hr;obtain⟨T2,v2,rfl⟩:=hr;have HR:=Hi (show Qbr E [41] ts=none by rw[HF.out,←HG.out,QaE];simp[tx,hnc,hm]);clear hm;go_wp2
    go_ret2
    rw[HR.out];exact⟨hX2.alloc _,_,_,v2.to (fun _ h=>Qip h),rfl⟩
   | some p =>
    obtain⟨x,us⟩:=p;rw[hm]at hr;obtain⟨T2,v2,rfl,hp9,hx2⟩:=hr;have hsh:=HE.out _ _ _ hvw hm;have hwu:=hsh.1.wf hvw;have hl2:=hsh.2;have HM:=Hi hm;clear hm hsh
    go_upto_region 4 with(fail)
    obtain⟨w3,hw⟩:∃w3,w2.alloc (.cells #[.iface T2 v2] 299)=w3:=⟨_,rfl⟩
    rw[hw];have hF:Below w2.heap.size w2 w3:=by rw[←hw];exact Qab _ _
    have hB3:w3.heap[w2.heap.size]? =some (.cells #[.iface T2 v2] 299 (0,0)):=by rw[←hw];exact Xa _ _
    have hs3:w2.heap.size+1≤w3.heap.size:=by rw[←hw];simp
    clear hw;have hm3:=hm2.later hF;have hx3:=hx2.later hF;have hO3:=Qaj (S:=fun _=>False) hO2 (.below hF) (fun _ h=>h.elim);have hX3:=hX2.trans (.below hF);have hp3:=hp9.below hF;clear hm2 hx2 hO2 hX2 hp9;clear hF;have c_hB_0:=Qaa (o:=0) hB3 rfl;have hcn:(w3.alloc (.cells #[.iface T2 v2] 299)).cell? ⟨w3.heap.size,0,none⟩=some (.iface T2 v2):=Qaa (Xa _ _) rfl;have hOa:=Qaj (S:=fun _=>False) hO3 (.below (Qab _ (.cells #[.iface T2 v2] 299))) (fun _ h=>h.elim)
    have hma:=hm3.later (Qab _ (.cells #[.iface T2 v2] 299));have hxa:=hx3.later (Qab _ (.cells #[.iface T2 v2] 299));have hpa:=hp3.below (Qab _ (.cells #[.iface T2 v2] 299));have hXa:=hX3.alloc (.cells #[.iface T2 v2] 299);clear hO3 hm3 hx3 hB3 hp3 hX3
    go_wp2_with(at_builtin;refine appG sl413 rfl _ _ rfl (w.heap.size) _ _ _ rfl hOa _ [.iface T2 v2] rfl rfl (QaD hcn) (fun v hv=>by rw[List.mem_singleton.1 hv];rfl) (by unfold maxLen;omega) (by omega) (by simp;omega) ?_)
    intro v9 w9 hO9 hg9 _;have hs9:w3.heap.size≤w9.heap.size:=by have:=hg9.size;simp at this;omega
    have hm9:=(hma.grow hOa hg9 (by decide)).snoc (hxa.grow hOa hg9 (by decide));have hp_w9:=hpa.grow hOa hg9 (by omega);have hX9:=hXa.grow hOa hg9 (by omega);clear hOa hma hxa hpa hXa hcn hg9 c_hB_0;obtain⟨u2,q2,rfl⟩:∃u q,us=u::q:=by cases us with | nil=>exact absurd rfl hp_w9.ne | cons u q=>exact⟨u,q,rfl⟩
    go_wp2_with fail
    refine(Qa7 hp_w9).mono ?_;rintro e w10⟨rfl,hF⟩;have hm10:=hm9.later hF;have hO10:=Qaj (S:=fun _=>False) hO9 (.below hF) (fun _ h=>h.elim);have hs10:=hF.size;have hX10:=hX9.trans (.below hF);have hp10:=hp_w9.below hF;clear hm9 hO9 hX9 hp_w9;clear hF;cases ht:(u2.tx.toList==[44])with
    | true =>
     have hau:(adv (u2::q2)).length<(u2::q2).length:=Qax hwu (s:=[44]) ht (by decide)
     go_wp2_with fail
     refine(Qaz hp10).mono ?_;rintro e w11⟨rfl,hp11,hF⟩;have hm11:=hm10.keep hF (fun d hd=>by omega);have hO11:=Qaj hO10 hF (fun d hd=>by omega);have hs11:=hF.size;have hX11:=hX10.trans hF;clear hm10 hO10 hX10 hp10;clear hF;have HG2:=Hi (show QaE E [41] g (acc++[x]) (adv (u2::q2))=QaE E [41] (ts.length+1) [] ts by rw[←HG.out,QaE];simp[tx,hnc,HM.out,ht]);go_wp2;go_roundw
     case rel=>exact⟨g,acc++[x],_,_,HG2.out,by omega,hwu.adv,by omega,by rw[List.length_append];show acc.length+1+_≤_;omega,hp11,by simpa using hO11,hm11,hX11⟩
     case measure =>
      rw[hp11.left,HLF.out];omega
    | false =>
     have hnk:=ht;clear ht;cases ht:(u2.tx.toList==[41])with
     | true =>
      have HG2:=Hi (show QaE E [41] g (acc++[x]) (u2::q2)=QaE E [41] (ts.length+1) [] ts by obtain⟨g',rfl⟩:∃g',g=g'+1:=⟨g-1,by omega⟩;rw[←HG.out];simp[QaE,tx,hnc,HM.out,hnk,ht]);go_wp2;go_roundw
      case rel=>exact⟨g,acc++[x],_,_,HG2.out,by omega,hwu,by omega,by rw[List.length_append];show acc.length+1+_≤_;omega,hp10,by simpa using hO10,hm10,hX10⟩
      case measure =>
       rw[hp10.left,HLF.out];omega
     | false =>
      have HR:=Hi (show Qbr E [41] ts=none by rw[HF.out,←HG.out,QaE];simp[tx,hnc,HM.out,hnk,ht])
      go_wp2_with fail
      refine(Qa7 hp10).mono ?_;rintro e w11⟨rfl,hF⟩;have hm11:=hm10.later hF;have hO11:=Qaj (S:=fun _=>False) hO10 (.below hF) (fun _ h=>h.elim);have hs11:=hF.size;have hX11:=hX10.trans (.below hF);have hp11:=hp10.below hF;clear hm10 hO10 hX10 hp10;clear hF
      go_wp2_with fail
      refine(Qay (hp11.below (Qab _ _)) _ _).mono ?_;rintro e w12⟨T9,v9,rfl,hF0⟩;have hF:=(Qab w11 (.cells #[.iface 9 (.string u2.tx)] 20)).trans (hF0.mono (by simp));clear hF0;have hm12:=hm11.later hF;have hO12:=Qaj (S:=fun _=>False) hO11 (.below hF) (fun _ h=>h.elim);have hs12:=hF.size;have hX12:=hX11.trans (.below hF);have hp12:=hp11.below hF;clear hm11 hO11 hX11 hp11;clear hF;go_wp2
      go_ret2
      rw[HR.out];exact⟨hX12,_,_,_,rfl⟩
theorem QgA{L:Lex}{E:Toks→Option (Ex×Toks)}{bp base N:Nat}(hE:Sh E)(hC:FnC 149 E bp base N):Qg8 (⟨#[93]⟩:ByteArray) (Qbr E [93]) bp base N:=by
 intro w ts hp hwf hN hbs;have hbb:=hp.hbp;have h15:=hp.h15;have hlen:=hp.len;have HC:=Hi hC;have HE:=Hi hE;clear hC hE;have HF:=Hi (show Qbr E [93] ts=QaE E [93] (ts.length+1) [] ts from rfl);go_enter func278,ntmps278
 go_upto_region 2 with(fail)
 go_loopw [6] (fun s wr=>LsRel (QaE E [93]) bp base ts.length (w.heap.size) w (QaE E [93] (ts.length+1) [] ts) s wr) (fun _ wr=>left wr bp)
 case atStart=>exact⟨ts.length+1,[],[],ts,rfl,by omega,hwf,by omega,by simp,hp,⟨rfl,.inl ⟨rfl,rfl⟩⟩,.nil,.refl _ _⟩
 case round =>
  clear hp;obtain⟨wo,rfl⟩:∃wo:World,wo=wr:=⟨_,rfl⟩
  rename_i sops _;obtain⟨g,acc,vals,vs,hg,hgl,hvw,hvN,haN,hp_wo,hO_wo,hm_wo,hX_wo⟩:=hrel;have HG:=Hi hg;clear hg;cases g with
  | zero=>omega
  | succ g =>
  obtain⟨u,q,rfl⟩:∃u q,vs=u::q:=by cases vs with | nil=>exact absurd rfl hp_wo.ne | cons u q=>exact⟨u,q,rfl⟩
  have HLF:=Hi hp_wo.left;have hsz_wo:=hX_wo.size;have hul:0<(u::q).length:=by simp
  go_wp2_with fail
  refine(Qa7 hp_wo).mono ?_;rintro e w1⟨rfl,hF⟩;have hm1:=hm_wo.later hF;have hO1:=Qaj (S:=fun _=>False) hO_wo (.below hF) (fun _ h=>h.elim);have hs1:=hF.size;have hX1:=hX_wo.trans (.below hF);have hp1:=hp_wo.below hF;clear hm_wo hO_wo hX_wo hp_wo;clear hF;cases ht:(u.tx.toList==[93])with
  | true =>
   have HR:=Hi (show Qbr E [93] ts=some (acc,u::q)by rw[HF.out,←HG.out,QaE];simp[tx,ht]);go_wp2
   go_ret2
   rw[HR.out];exact⟨hX1,_,_,rfl,hp1,hO1,hm1,by omega⟩
  | false =>
   have hnc:=ht;clear ht
   go_wp2_with fail
   refine(HC.out _ _ hp1 hvw (by omega) (by omega)).mono ?_;rintro e w2⟨hF,hr⟩;have hm2:=hm1.keep hF (fun d hd=>by omega);have hO2:=Qaj hO1 hF (fun d hd=>by omega);have hs2:=hF.size;have hX2:=hX1.trans hF;clear hm1 hO1 hX1;clear hF;cases hm:E (u::q)with
   | none =>
    rw[hm]at hr;obtain⟨T2,v2,rfl⟩:=hr;have HR:=Hi (show Qbr E [93] ts=none by rw[HF.out,←HG.out,QaE];simp[tx,hnc,hm]);clear hm;go_wp2
    go_ret2
    rw[HR.out];exact⟨hX2.alloc _,_,_,v2.to (fun _ h=>Qip h),rfl⟩
   | some p =>
    obtain⟨x,us⟩:=p;rw[hm]at hr;obtain⟨T2,v2,rfl,hp9,hx2⟩:=hr;have hsh:=HE.out _ _ _ hvw hm;have hwu:=hsh.1.wf hvw;have hl2:=hsh.2;have HM:=Hi hm;clear hm hsh
    go_upto_region 4 with(fail)
    obtain⟨w3,hw⟩:∃w3,w2.alloc (.cells #[.iface T2 v2] 299)=w3:=⟨_,rfl⟩
    rw[hw];have hF:Below w2.heap.size w2 w3:=by rw[←hw];exact Qab _ _
    have hB3:w3.heap[w2.heap.size]? =some (.cells #[.iface T2 v2] 299 (0,0)):=by rw[←hw];exact Xa _ _
    have hs3:w2.heap.size+1≤w3.heap.size:=by rw[←hw];simp
    clear hw;have hm3:=hm2.later hF;have hx3:=hx2.later hF;have hO3:=Qaj (S:=fun _=>False) hO2 (.below hF) (fun _ h=>h.elim);have hX3:=hX2.trans (.below hF);have hp3:=hp9.below hF;clear hm2 hx2 hO2 hX2 hp9;clear hF;have c_hB_0:=Qaa (o:=0) hB3 rfl;have hcn:(w3.alloc (.cells #[.iface T2 v2] 299)).cell? ⟨w3.heap.size,0,none⟩=some (.iface T2 v2):=Qaa (Xa _ _) rfl;have hOa:=Qaj (S:=fun _=>False) hO3 (.below (Qab _ (.cells #[.iface T2 v2] 299))) (fun _ h=>h.elim)
    have hma:=hm3.later (Qab _ (.cells #[.iface T2 v2] 299));have hxa:=hx3.later (Qab _ (.cells #[.iface T2 v2] 299));have hpa:=hp3.below (Qab _ (.cells #[.iface T2 v2] 299));have hXa:=hX3.alloc (.cells #[.iface T2 v2] 299);clear hO3 hm3 hx3 hB3 hp3 hX3
    go_wp2_with(at_builtin;refine appG sl413 rfl _ _ rfl (w.heap.size) _ _ _ rfl hOa _ [.iface T2 v2] rfl rfl (QaD hcn) (fun v hv=>by rw[List.mem_singleton.1 hv];rfl) (by unfold maxLen;omega) (by omega) (by simp;omega) ?_)
    intro v9 w9 hO9 hg9 _;have hs9:w3.heap.size≤w9.heap.size:=by have:=hg9.size;simp at this;omega
    have hm9:=(hma.grow hOa hg9 (by decide)).snoc (hxa.grow hOa hg9 (by decide));have hp_w9:=hpa.grow hOa hg9 (by omega);have hX9:=hXa.grow hOa hg9 (by omega);clear hOa hma hxa hpa hXa hcn hg9 c_hB_0;obtain⟨u2,q2,rfl⟩:∃u q,us=u::q:=by cases us with | nil=>exact absurd rfl hp_w9.ne | cons u q=>exact⟨u,q,rfl⟩
    go_wp2_with fail
    refine(Qa7 hp_w9).mono ?_;rintro e w10⟨rfl,hF⟩;have hm10:=hm9.later hF;have hO10:=Qaj (S:=fun _=>False) hO9 (.below hF) (fun _ h=>h.elim);have hs10:=hF.size;have hX10:=hX9.trans (.below hF);have hp10:=hp_w9.below hF;clear hm9 hO9 hX9 hp_w9;clear hF;cases ht:(u2.tx.toList==[44])with
    | true =>
     have hau:(adv (u2::q2)).length<(u2::q2).length:=Qax hwu (s:=[44]) ht (by decide)
     go_wp2_with fail
     refine(Qaz hp10).mono ?_;rintro e w11⟨rfl,hp11,hF⟩;have hm11:=hm10.keep hF (fun d hd=>by omega);have hO11:=Qaj hO10 hF (fun d hd=>by omega);have hs11:=hF.size;have hX11:=hX10.trans hF;clear hm10 hO10 hX10 hp10;clear hF;have HG2:=Hi (show QaE E [93] g (acc++[x]) (adv (u2::q2))=QaE E [93] (ts.length+1) [] ts by rw[←HG.out,QaE];simp[tx,hnc,HM.out,ht]);go_wp2;go_roundw
     case rel=>exact⟨g,acc++[x],_,_,HG2.out,by omega,hwu.adv,by omega,by rw[List.length_append];show acc.length+1+_≤_;omega,hp11,by simpa using hO11,hm11,hX11⟩
     case measure =>
      rw[hp11.left,HLF.out];omega
    | false =>
     have hnk:=ht;clear ht;cases ht:(u2.tx.toList==[93])with
     | true =>
      have HG2:=Hi (show QaE E [93] g (acc++[x]) (u2::q2)=QaE E [93] (ts.length+1) [] ts by obtain⟨g',rfl⟩:∃g',g=g'+1:=⟨g-1,by omega⟩;rw[←HG.out];simp[QaE,tx,hnc,HM.out,hnk,ht]);go_wp2;go_roundw
      case rel=>exact⟨g,acc++[x],_,_,HG2.out,by omega,hwu,by omega,by rw[List.length_append];show acc.length+1+_≤_;omega,hp10,by simpa using hO10,hm10,hX10⟩
      case measure =>
       rw[hp10.left,HLF.out];omega
     | false =>
      have HR:=Hi (show Qbr E [93] ts=none by rw[HF.out,←HG.out,QaE];simp[tx,hnc,HM.out,hnk,ht])
      go_wp2_with fail
      refine(Qa7 hp10).mono ?_;rintro e w11⟨rfl,hF⟩;have hm11:=hm10.later hF;have hO11:=Qaj (S:=fun _=>False) hO10 (.below hF) (fun _ h=>h.elim);have hs11:=hF.size;have hX11:=hX10.trans (.below hF);have hp11:=hp10.below hF;clear hm10 hO10 hX10 hp10;clear hF
      go_wp2_with fail
      refine(Qay (hp11.below (Qab _ _)) _ _).mono ?_;rintro e w12⟨T9,v9,rfl,hF0⟩;have hF:=(Qab w11 (.cells #[.iface 9 (.string u2.tx)] 20)).trans (hF0.mono (by simp));clear hF0;have hm12:=hm11.later hF;have hO12:=Qaj (S:=fun _=>False) hO11 (.below hF) (fun _ h=>h.elim);have hs12:=hF.size;have hX12:=hX11.trans (.below hF);have hp12:=hp11.below hF;clear hm11 hO11 hX11 hp11;clear hF;go_wp2
      go_ret2
      rw[HR.out];exact⟨hX12,_,_,_,rfl⟩
theorem Qes{w:World}{B n:Nat}{e:TypeId}{s:Value}{vals:List Value}(h:w.ownsRow B e 1 s n vals) :
  (n=0∧s=.slice none 0 0)∨∃g cap c,s=.slice (some ⟨g,0,none⟩) n cap∧B≤g∧w.heap[g]? =some (.cells c e (0,0))∧n≤cap∧cap≤maxLen∧∀i,i<n→c[i]? =vals[i]? := by
 obtain⟨h1,h2⟩:=h;rcases h2 with⟨h,h0⟩ | ⟨g,cap,cur,a,b,c,d,e,f,k⟩
 ·exact .inl ⟨h0,h⟩
 ·refine .inr ⟨g,cap,cur,a,b,c,d,e,fun i hi=>?_⟩
  have hk:(cur.toList.take (n*1))[i]? =vals[i]? := by rw[k]
  rw[List.getElem?_take_of_lt (by omega)]at hk;simpa using hk
theorem Qby{a b:World}{d o:Nat}{v:Value}(h:Below a.heap.size a b)(hd:a.heap.size≤d):Below a.heap.size a (b.setCell ⟨d,o,none⟩ v) :=
 ((Ext.below (S:=fun _=>False) h).set (.inr hd) _).toBelow (fun _ h=>h.elim) (Xb _)
@[go_sem] theorem eql413_n(w:World):(binOp .eql 413 (.slice none 0 0) (.slice none 0 0)).run prog w=.ok (.bool true) w:=by kernel_rfl
@[go_sem] theorem eql413_s(g:Nat)(n c:Nat)(w:World):(binOp .eql 413 (.slice (some ⟨g,0,none⟩) n c) (.slice none 0 0)).run prog w=.ok (.bool false) w:=by kernel_rfl
def StRel(w:World)(b n:Nat)(vals:List Value)(s:Value)(wr:World):Prop :=
 ∃(i:Nat)(c:Array Value),s=.int .i64 (i:Int)∧i≤n∧c.size=n∧wr.heap[b]? =some (.cells c 136 (0,0))∧(∀j:Nat,j<i→c[j]? =some (vals.getD j .nilIface))∧Below w.heap.size w wr
theorem QgB{w:World}{B n:Nat}{s:Value}{vals:List Value}(ho:w.ownsRow B 299 1 s n vals)(hv:∀i:Nat,i<n→∃(T:TypeId)(v:Value),vals[i]? =some (Value.iface T v))(hn:n≤1000000) :
  Calls prog 304 #[s] w fun e w'=>Below w.heap.size w w'∧∃p c,e=.returned (.slice p n c)∧RowAt w' w.heap.size 136 p n (fun i=>vals.getD i .nilIface):=by
 rcases Qes ho with⟨rfl,rfl⟩ | ⟨g,cap,c,rfl,hB,hg,h1,h2,hc⟩
 ·go_enter func304,ntmps304
  go_wp2;go_ret;exact⟨.refl _ _,none,0,rfl,.inl rfl⟩
 ·have hmk:=run_make_row' (P:=prog) 212 136 .nilIface 16 (by kernel_rfl) (by kernel_rfl) rfl .i64 .i64 n (by omega) (by omega)
  have hlg:=Qad hg;go_enter func304,ntmps304
  go_upto_region 4 with(fail)
  obtain⟨w1,hw⟩:∃w1,w.alloc (.cells (madeCells #[.nilIface] n) 136)=w1:=⟨_,rfl⟩
  rw[hw];have hb:Below w.heap.size w w1:=by rw[←hw];exact Qab _ _
  have hb1:w1.heap[w.heap.size]? =some (.cells (madeCells #[.nilIface] n) 136 (0,0)):=by rw[←hw];exact Xa _ _
  clear hw
  go_upto_region 5 with(fail)
  go_loopw [13] (fun s wr=>StRel w w.heap.size n vals s wr) (fun s _=>(n-intOf s).toNat)
  case atStart=>exact⟨0,_,rfl,by omega,by simp[madeCells],hb1,fun j hj=>absurd hj (Nat.not_lt_zero _),hb⟩
  case round =>
   clear hb hb1;obtain⟨wo,rfl⟩:∃wo:World,wo=wr:=⟨_,rfl⟩
   obtain⟨i,c',rfl,hi,hcs,hbo,hcj,hbl⟩:=hrel;have hso:=hbl.size;have hlb:=Qad hbo;by_cases hin:i<n
   ·obtain⟨T,v,hvv⟩:=hv i hin
    have hci:wo.cell? ⟨g,i,none⟩=some (.iface T v):=Qaa ((hbl.block _ hlg).trans hg) ((hc i hin).trans hvv)
    go_upto_region 7 with(fail)
    obtain⟨w2,hw⟩:∃w2,wo.alloc (.cells #[.iface T v] 299)=w2:=⟨_,rfl⟩
    rw[hw];have hx:w2.cell? ⟨wo.heap.size,0,none⟩=some (.iface T v):=by rw[←hw];exact Qaa (Xa _ _) rfl
    have hb2:w2.heap[w.heap.size]? =some (.cells c' 136 (0,0)):=by rw[←hw];exact Qaf hbo _
    have hbl2:Below w.heap.size w w2:=by rw[←hw];exact hbl.alloc (by omega) _
    have hsz:wo.heap.size<w2.heap.size:=by rw[←hw];simp
    have hold:w2.cell? ⟨w.heap.size,i,none⟩=some c'[i]:=Qaa hb2 (by simp[hcs,hin]);have hfr:w2.frozen? ⟨w.heap.size,i,none⟩=false:=Qae hb2 i;have hend:=Qby (d:=w.heap.size) (o:=i) (v:=.iface T v) hbl2 (Xb _);have hset:=Qac (o:=i) hb2 (.iface T v);have HE:=Hi (Xc hend hset);clear hw hb2 hbl2 hci hbo hbl hend hset;go_wp2;go_roundw
    case rel =>
     refine⟨i+1,_,rfl,by omega,?_,HE.out.2,fun j hj=>?_,HE.out.1⟩
     ·simp[hcs]
     ·rcases Nat.lt_or_eq_of_le (Nat.le_of_lt_succ hj)with h | rfl
      ·rw[Array.getElem?_setIfInBounds_ne (by omega)];exact hcj j h
      ·rw[Array.getElem?_setIfInBounds_self_of_lt (by omega)];simp[List.getD,hvv]
    case measure=>simp[intOf];omega
   ·obtain rfl:i=n:=by omega
    go_wp2;go_ret;exact⟨hbl,some ⟨w.heap.size,0,none⟩,_,rfl,.inr ⟨_,0,c',_,rfl,Xb _,hbo,fun j hj=>by simpa using hcj j hj⟩⟩
theorem NodesIs.at{w:World}{lo:Nat}{vals:List Value}{l:List Ex}(h:NodesIs w lo vals l):∀i a,l[i]? =some a→NodeIs w lo (vals.getD i .nilIface) a:=by
 intro i a hi;obtain⟨T,v,h1,h2⟩:=h.2 i a hi;rw[show vals.getD i .nilIface=.iface T v by simp[List.getD,h1]];exact h2
theorem NodesIs.vals{w:World}{lo:Nat}{vals:List Value}{l:List Ex}(h:NodesIs w lo vals l):∀i:Nat,i<l.length→∃(T:TypeId)(v:Value),vals[i]? =some (Value.iface T v):=by
 intro i hi;obtain⟨T,v,h1,h2⟩:=h.2 i l[i] (by simp[hi]);exact⟨T,v,h1⟩
theorem n308_c(s t:ByteArray)(w:World):Calls prog 308 #[.string s,.string t] w fun e w'=>e=.returned (.agg #[.string s,.string t])∧Below w.heap.size w w':=by
 go_enter func308,ntmps308;go_wp2;exact bodyPost_ret (Qao (a:=4) (t:=167) (by kernel_rfl) _ ⟨w.heap.size,0,none⟩ rfl _ _ (QeP _ _ _ _ _ (by kernel_rfl) (by kernel_rfl) (Qaa (o:=0) (Xa w _) rfl) (Qaa (o:=1) (Xa w _) rfl))) rfl ⟨rfl,Qab w _⟩
theorem n298_c(s t:ByteArray)(w:World):Calls prog 298 #[.string s,.string t] w (QaY w (.iface 182 (.agg #[.iface 167 (.agg #[.string s,.string t])]))):=by
 go_enter func298,ntmps298
 go_wp2_with fail
 refine(n308_c _ _ _).mono ?_;rintro e w1⟨rfl,hb1⟩;have hs:=hb1.size;have r1:w1.heap[w.heap.size]? =some (.cells #[.nilIface] 299 (0,0)):=(hb1.block _ (by simp)).trans (Xa w _);have hb0:Below w.heap.size w w1:=(Qab w _).trans (hb1.mono (by simp));have hlt:=Qad r1
 go_upto_region 2 with(fail)
 obtain⟨w3,hw⟩:∃w3,w1.alloc (.cells #[.string s,.string t] 167)=w3:=⟨_,rfl⟩
 rw[hw];have k0:w3.cell? ⟨w1.heap.size,0,none⟩=some (.string s):=by rw[←hw];exact Qaa (Xa _ _) rfl
 have k1:w3.cell? ⟨w1.heap.size,1,none⟩=some (.string t):=by rw[←hw];exact Qaa (Xa _ _) rfl
 have r3:w3.heap[w.heap.size]? =some (.cells #[.nilIface] 299 (0,0)):=by rw[←hw];exact Qaf r1 _
 have hb3:Below w.heap.size w w3:=by rw[←hw];exact hb0.alloc (by omega) _
 have R1:=Hi r3;clear r1 hb1 r3 hw hb0
 go_wp2_with fail
 refine(Qfu _ _ _).mono ?_;rintro e w2⟨rfl,hb⟩;obtain⟨z1,z2,z3⟩:=Qan hb R1.out;have hE:=Qap (w:=w) (R:=w.heap.size) (v:=.iface 182 (.agg #[.iface 167 (.agg #[.string s,.string t])])) (Ext.below hb3) hb (by omega);have HE:=Hi hE;clear hb hE k0 k1;go_wp2;exact Qaq (R:=w.heap.size) _ 4 (by kernel_rfl) rfl rfl (Qac (o:=0) z3.out _) ⟨rfl,HE.out⟩
theorem n269_c{L:Lex}(hL:LexC L)(t:Tok)(w:World)(hg:Glob w)(h15:15≤w.heap.size)(hz:t.tx.size≤1000000){base:Nat}(hbs:base≤w.heap.size):Calls prog 269 #[t.val] w (IntV base w (L.int t.tx)):=by
 have hsz:t.tx.size≤1000001:=by omega
 go_enter func269,ntmps269
 go_wp2_with fail
 refine(hL.int t.tx _ (hg.ext (S:=fun _=>False) (.below (Qab w _)) (fun _ k=>k.elim) h15) (by simp;omega) hsz (base:=base) (by simp;omega)).mono ?_;rintro e w1⟨hb,hr⟩;have hb1:Below w.heap.size w w1:=(Qab w _).trans (hb.mono (by simp));have HB:=Hi hb1;clear hb hb1;cases hm:L.int t.tx with
 | none =>
  rw[hm]at hr;obtain⟨n,T,v,rfl⟩:=hr;have HM:=Hi hm;clear hm;go_wp2
  go_ret2
  rw[HM.out];exact⟨HB.out,_,_,_,rfl⟩
 | some n =>
  rw[hm]at hr;obtain rfl:=hr;have HM:=Hi hm;clear hm;go_wp2
  go_ret2
  rw[HM.out];exact⟨HB.out,rfl⟩
def Qet(base:Nat)(w:World)(x:Ex)(e:Ending)(w':World):Prop :=
 Below w.heap.size w w'∧∃T v,e=.returned (.agg #[.iface T v])∧NodeIs w' base (.iface T v) x
theorem RowAt.later{w w':World}{lo tag:Nat}{p:Option Addr}{n:Nat}{vs:Nat→Value}(h:RowAt w lo tag p n vs)(ht:tag=136∨tag=221∨tag=316)(hb:Below w.heap.size w w'):RowAt w' lo tag p n vs:=h.ext (S:=fun _=>False) ht (.below hb) (fun _ k=>k.elim)
theorem set_c{w:World}{base B:Nat}{s:Value}{vals:List Value}{l:List Ex}(hbs:base≤w.heap.size)(ho:w.ownsRow B 299 1 s l.length vals)(hn:NodesIs w base vals l)(hl:l.length≤1000000):Calls prog 279 #[s] w (Qet base w (.set l)):=by
 have hv:=hn.vals;go_enter func279,ntmps279
 go_wp2_with fail
 refine(QgB (Qaj (S:=fun _=>False) ho (.below (Qab _ _)) (fun _ h=>h.elim)) hv hl).mono ?_;rintro e w1⟨hb1,p,c,rfl,hr⟩;have hs:=hb1.size;have r1:w1.heap[w.heap.size]? =some (.cells #[.nilIface] 299 (0,0)):=(hb1.block _ (by simp)).trans (Xa w _);have hb0:Below w.heap.size w w1:=(Qab w _).trans (hb1.mono (by simp));have hS:NodeIs w1 base (.iface 216 (.agg #[.slice p l.length c])) (.set l):=.set l p c _ (hr.mono (by simp;omega)) (hn.later hb0).at
 have R1:=Hi r1;clear r1 hb1 hr
 go_wp2_with fail
 refine(Qar _ _ _).mono ?_;rintro e w2⟨rfl,hb⟩;obtain⟨z1,z2,z3⟩:=Qan hb R1.out;have hE:=Qap (w:=w) (R:=w.heap.size) (v:=.iface 216 (.agg #[.slice p l.length c])) (Ext.below hb0) hb (by omega);have HE:=Hi (Xc hE ((hS.later hb).store (o:=0) z3.out (by decide) (.iface 216 (.agg #[.slice p l.length c]))));clear hb hE;go_wp2;exact Qaq (R:=w.heap.size) _ 2 (by kernel_rfl) rfl rfl (Qac (o:=0) z3.out _) ⟨HE.out.1,_,_,rfl,HE.out.2⟩
theorem n309_c{w:World}{base B:Nat}{s:Value}{vals:List Value}{l:List Ex}(name:ByteArray)(hbs:base≤w.heap.size)(ho:w.ownsRow B 299 1 s l.length vals)(hn:NodesIs w base vals l)(hl:l.length≤1000000):Calls prog 309 #[.string name,s] w (Qet base w (.call name l)):=by
 have hv:=hn.vals;go_enter func309,ntmps309
 go_wp2_with fail
 refine(QgB (Qaj (S:=fun _=>False) ho (.below (Qab _ _)) (fun _ h=>h.elim)) hv hl).mono ?_;rintro e w1⟨hb1,p,c,rfl,hr⟩;have hs:=hb1.size;have r1:w1.heap[w.heap.size]? =some (.cells #[.nilIface] 299 (0,0)):=(hb1.block _ (by simp)).trans (Xa w _);have hb0:Below w.heap.size w w1:=(Qab w _).trans (hb1.mono (by simp));have hS:NodeIs w1 base (.iface 214 (.agg #[.string name,.slice p l.length c])) (.call name l):=.call name l p c _ (hr.mono (by simp;omega)) (hn.later hb0).at
 have R1:=Hi r1;clear r1 hb1 hr
 go_wp2_with fail
 refine(Qar _ _ _).mono ?_;rintro e w2⟨rfl,hb⟩;obtain⟨z1,z2,z3⟩:=Qan hb R1.out;have hE:=Qap (w:=w) (R:=w.heap.size) (v:=.iface 214 (.agg #[.string name,.slice p l.length c])) (Ext.below hb0) hb (by omega);have HE:=Hi (Xc hE ((hS.later hb).store (o:=0) z3.out (by decide) (.iface 214 (.agg #[.string name,.slice p l.length c]))));clear hb hE;go_wp2;exact Qaq (R:=w.heap.size) _ 4 (by kernel_rfl) rfl rfl (Qac (o:=0) z3.out _) ⟨HE.out.1,_,_,rfl,HE.out.2⟩
theorem n299_c{w:World}{base B:Nat}{s:Value}{vals:List Value}{l:List Ex}(name:ByteArray)(hbs:base≤w.heap.size)(ho:w.ownsRow B 299 1 s l.length vals)(hn:NodesIs w base vals l)(hl:l.length≤1000000):Calls prog 299 #[.string name,s] w (Qet base w (.call name l)):=by
 go_enter func299,ntmps299
 go_wp2_with fail
 refine(n309_c name (by simp;omega) (Qaj (S:=fun _=>False) ho (.below (Qab _ _)) (fun _ h=>h.elim)) (hn.later (Qab _ _)) hl).mono ?_;rintro e w1⟨hb1,T,v,rfl,hS⟩;have hs:=hb1.size;have r1:w1.heap[w.heap.size]? =some (.cells #[.nilIface] 299 (0,0)):=(hb1.block _ (by simp)).trans (Xa w _);have hb0:Below w.heap.size w w1:=(Qab w _).trans (hb1.mono (by simp));have c0:w1.cell? ⟨w.heap.size,0,none⟩=some .nilIface:=Qaa r1 rfl
 have f0:w1.frozen? ⟨w.heap.size,0,none⟩=false:=Qae r1 0;have HE:=Hi (Xc r1 (Xc (Qby (d:=w.heap.size) (o:=0) (v:=.iface T v) hb0 (Xb _)) (hS.store (o:=0) r1 (by decide) (.iface T v))));clear r1 hb1 hb0;go_wp2;exact Qaq (R:=w.heap.size) _ 4 (by kernel_rfl) rfl rfl (Qac (o:=0) HE.out.1 _) ⟨HE.out.2.1,_,_,rfl,HE.out.2.2⟩
def MtRel(w:World)(R b n:Nat)(x:Value)(vals:List Value)(s:Value)(wr:World):Prop :=
 ∃(i:Nat)(c:Array Value),s=.int .i64 (i:Int)∧i≤n∧c.size=1+n∧wr.heap[b]? =some (.cells c 136 (0,0))∧c[0]? =some x∧(∀j:Nat,j<i→c[j+1]? =some (vals.getD j .nilIface))∧wr.heap[R]? =some (.cells #[.nilIface] 299 (0,0))∧Below w.heap.size w wr∧b<wr.heap.size
theorem n290_c{w:World}{base B:Nat}{s:Value}{vals:List Value}{l:List Ex}{T:TypeId}{v:Value}{x:Ex}(name:ByteArray)(hbs:base≤w.heap.size)(hB:B≤w.heap.size)(hx:NodeIs w base (.iface T v) x)(ho:w.ownsRow B 299 1 s l.length vals)(hnn:NodesIs w base vals l)(hl:l.length≤1000000):Calls prog 290 #[.agg #[.iface T v],.string name,s] w (Qet base w (.call name (x::l))):=by
 have hv:=hnn.vals;obtain⟨n,hn⟩:∃n,n=l.length:=⟨_,rfl⟩
 have hmk:=run_make_row' (P:=prog) 212 136 .nilIface 16 (by kernel_rfl) (by kernel_rfl) rfl .i64 .i64 (1+n) (by omega) (by omega);rw[show((1+n:Nat):Int)=1+(n:Int)by omega]at hmk;have hs4:(s=.slice none 0 0∧n=0)∨∃g cap c,s=.slice (some ⟨g,0,none⟩) n cap∧w.heap[g]? =some (.cells c 299 (0,0))∧n≤cap∧∀i,i<n→c[i]? =vals[i]? := by
  rcases Qes ho with⟨h1,h2⟩ | ⟨g,cap,c,h1,_,h2,h3,_,h4⟩
  ·exact .inl ⟨h2,by omega⟩
  ·exact .inr ⟨g,cap,c,by rw[hn];exact h1,h2,by omega,by rw[hn];exact h4⟩
 obtain⟨p,cap,rfl,hrow⟩:∃p cap,s=.slice p n cap∧(n=0∨∃g c,p=some ⟨g,0,none⟩∧w.heap[g]? =some (.cells c 299 (0,0))∧n≤cap∧∀i,i<n→c[i]? =vals[i]?):=by
  rcases hs4 with⟨h1,h2⟩ | ⟨g,cap,c,h1,h2,h3,h4⟩
  ·exact⟨none,0,by rw[h1,h2],.inl h2⟩
  ·exact⟨_,cap,h1,.inr ⟨g,c,rfl,h2,h3,h4⟩⟩
 rw[←hn]at hv;have hln:n≤1000000:=by omega
 have HN:=Hi hn;clear hs4 ho hn hl;go_enter func290,ntmps290
 go_upto_region 2 with(fail)
 obtain⟨w1,hw⟩:∃w1,((w.alloc (.cells #[.iface T v] 299)).alloc (.cells #[.nilIface] 299)).alloc (.cells (madeCells #[.nilIface] (1+n)) 136)=w1:=⟨_,rfl⟩
 rw[hw];have hb:Below w.heap.size w w1:=by rw[←hw];exact((Qab w _).alloc (by simp) _).alloc (by simp;omega) _
 have hX1:w1.heap[w.heap.size]? =some (.cells #[.iface T v] 299 (0,0)):=by rw[←hw];exact Qaf (Qaf (Xa _ _) _) _
 have hR1:w1.heap[w.heap.size+1]? =some (.cells #[.nilIface] 299 (0,0)):=by rw[←hw];exact Qaf (Qah (by simp) _) _
 have hb1:w1.heap[w.heap.size+1+1]? =some (.cells (madeCells #[.nilIface] (1+n)) 136 (0,0)):=by rw[←hw];exact Qah (by simp) _
 clear hw hmk;have x0:w1.cell? ⟨w.heap.size,0,none⟩=some (.iface T v):=Qaa hX1 rfl;have hmc:(madeCells #[Value.nilIface] (1+n)).size=1+n:=by simp[madeCells]
 have old0:w1.cell? ⟨w.heap.size+1+1,0,none⟩=some ((madeCells #[Value.nilIface] (1+n))[0]'(by omega)):=Qaa hb1 (by simp[hmc]);have f0:w1.frozen? ⟨w.heap.size+1+1,0,none⟩=false:=Qae hb1 0;have hl1:=Qad hb1
 go_upto_region 3 with(fail)
 obtain⟨w2,hw⟩:∃w2,w1.setCell ⟨w.heap.size+1+1,0,none⟩ (.iface T v)=w2:=⟨_,rfl⟩
 rw[hw];have hb2:w2.heap[w.heap.size+1+1]? =some (.cells ((madeCells #[.nilIface] (1+n)).setIfInBounds 0 (.iface T v)) 136 (0,0)):=by rw[←hw];exact Qac hb1 _
 have hR2:w2.heap[w.heap.size+1]? =some (.cells #[.nilIface] 299 (0,0)):=by rw[←hw];exact Qag hR1 (by omega) _
 have hB2:Below w.heap.size w w2:=by rw[←hw];exact Qby hb (by omega)
 have hl2:=Qad hb2;clear hw hb hX1 hR1 hb1 x0 old0 f0
 go_upto_region 4 with(fail)
 go_loopw [20] (fun s wr=>MtRel w (w.heap.size+1) (w.heap.size+1+1) n (.iface T v) vals s wr) (fun s _=>(n-intOf s).toNat)
 case atStart=>exact⟨0,_,rfl,by omega,by simp[hmc],hb2,by rw[Array.getElem?_setIfInBounds_self_of_lt (by omega)],fun j hj=>absurd hj (Nat.not_lt_zero _),hR2,hB2,hl2⟩
 case round =>
  clear hb2 hR2 hB2 hl2 hl1;obtain⟨wo,rfl⟩:∃wo:World,wo=wr:=⟨_,rfl⟩
  obtain⟨i,c',rfl,hi,hcs,hbo,hc0,hcj,hRo,hbl,hlo⟩:=hrel;have hso:=hbl.size;by_cases hin:i<n
  ·obtain⟨T2,v2,hvv⟩:=hv i hin
   obtain⟨g,c,rfl,hg,hcap,hc⟩:=hrow.resolve_left (by omega);have hci:wo.cell? ⟨g,i,none⟩=some (.iface T2 v2):=Qaa (Bk hbl hg) ((hc i hin).trans hvv)
   go_upto_region 6 with(fail)
   obtain⟨w3,hw⟩:∃w3,wo.alloc (.cells #[.iface T2 v2] 299)=w3:=⟨_,rfl⟩
   rw[hw];have hx3:w3.cell? ⟨wo.heap.size,0,none⟩=some (.iface T2 v2):=by rw[←hw];exact Qaa (Xa _ _) rfl
   have hb3:w3.heap[w.heap.size+1+1]? =some (.cells c' 136 (0,0)):=by rw[←hw];exact Qaf hbo _
   have hR3:w3.heap[w.heap.size+1]? =some (.cells #[.nilIface] 299 (0,0)):=by rw[←hw];exact Qaf hRo _
   have hbl3:Below w.heap.size w w3:=by rw[←hw];exact hbl.alloc (by omega) _
   have hsz:wo.heap.size<w3.heap.size:=by rw[←hw];simp
   have hold:w3.cell? ⟨w.heap.size+1+1,i+1,none⟩=some (c'[i+1]'(by omega)):=Qaa hb3 (by first | (simp[hcs];done) | (simp[hcs];omega));have hfr:w3.frozen? ⟨w.heap.size+1+1,i+1,none⟩=false:=Qae hb3 (i+1);have hend:=Qby (d:=w.heap.size+1+1) (o:=i+1) (v:=.iface T2 v2) hbl3 (by omega);have HE:=Hi (Xc hend (Xc (Qac (o:=i+1) hb3 (.iface T2 v2)) (Qag (d:=w.heap.size+1+1) (o:=i+1) hR3 (by omega) (.iface T2 v2))))
   clear hw hb3 hbl3 hci hbo hbl hend hR3 hRo hg hc hrow;go_wp2;go_roundw
   case rel =>
    refine⟨i+1,_,rfl,by omega,?_,HE.out.2.1,?_,fun j hj=>?_,HE.out.2.2,HE.out.1,by simp;omega⟩
    ·simp[hcs]
    ·rw[Array.getElem?_setIfInBounds_ne (by omega)];exact hc0
    ·rcases Nat.lt_or_eq_of_le (Nat.le_of_lt_succ hj)with h | rfl
     ·rw[Array.getElem?_setIfInBounds_ne (by omega)];exact hcj j h
     ·rw[Array.getElem?_setIfInBounds_self_of_lt (by omega)];simp[List.getD,hvv]
   case measure=>simp[intOf];omega
  ·obtain rfl:i=n:=by omega
   have hS:NodeIs wo base (.iface 214 (.agg #[.string name,.slice (some ⟨w.heap.size+1+1,0,none⟩) (1+i) (1+i)])) (.call name (x::l)):=by
    have h:(1+i)=(x::l).length:=by rw[List.length_cons,←HN.out];omega
    have hrowc:RowAt wo base 136 (some ⟨w.heap.size+1+1,0,none⟩) (1+i) (fun j=>match j with | 0=>.iface T v | j+1=>vals.getD j .nilIface):=by
     refine .inr ⟨_,0,c',_,rfl,by omega,hbo,fun j hj=>?_⟩;cases j with
     | zero=>simpa using hc0
     | succ j=>simpa using hcj j (by omega)
    rw[h]at hrowc ⊢;refine .call name _ _ _ _ hrowc (fun j a hj=>?_);cases j with
    | zero=>simp at hj;subst hj;exact hx.later hbl
    | succ j=>exact(hnn.later hbl).at j a (by simpa using hj)
   have HS:=Hi hS;have HR:=Hi hRo;clear hbo hc0 hcj hS hRo
   go_wp2_with fail
   refine(Qar _ _ _).mono ?_;rintro e w2⟨rfl,hb⟩;obtain⟨z1,z2,z3⟩:=Qan hb HR.out;have hE:=Qap (w:=w) (R:=w.heap.size+1) (v:=.iface 214 (.agg #[.string name,.slice (some ⟨w.heap.size+1+1,0,none⟩) (1+i) (1+i)])) (Ext.below hbl) hb (by omega);have HE:=Hi (Xc hE ((HS.out.later hb).store (o:=0) z3.out (by decide) (.iface 214 (.agg #[.string name,.slice (some ⟨w.heap.size+1+1,0,none⟩) (1+i) (1+i)]))));clear hb hE
   go_wp2;exact Qaq (R:=w.heap.size+1) _ 6 (by kernel_rfl) rfl rfl (Qac (o:=0) z3.out _) ⟨HE.out.1,_,_,rfl,HE.out.2⟩
theorem enter282(args:Array Value)(w:World):(callFunc 282 args).run prog w=.ok (.enter 282 args) w:=by kernel_rfl
def MethP(base:Nat)(w:World)(r:Option Ex)(e:Ending)(w':World):Prop :=
 Below w.heap.size w w'∧match r with
 | none=>∃T,∃v:EVal base w' T,e=.returned (.tuple #[.agg #[.nilIface],.iface T v.1])
 | some y=>∃T v,e=.returned (.tuple #[.agg #[.iface T v],.nilIface])∧NodeIs w' base (.iface T v) y
def zero(lhs:Ex):List Ex→Option Ex
 | []=>some (.una 210 lhs)
 | _=>none
theorem QgC{w:World}{bp base B:Nat}{ts:Toks}{s:Value}{vals:List Value}{l:List Ex}{T:TypeId}{v:Value}{x:Ex}(k:FuncId)(op:Nat)(hen:∀(args:Array Value)(w:World),(callFunc k args).run prog w=.ok (.enter k args) w)
  (hk:∀(T U:TypeId)(x y:Value)(w:World),Calls prog k #[.agg #[.iface T x],.agg #[.iface U y]] w (QaY w (.iface op (.agg #[.iface T x,.iface U y]))))
  (name:ByteArray)(hp:PS w bp base ts)(hbs:base≤w.heap.size)(hx:NodeIs w base (.iface T v) x)(ho:w.ownsRow B 299 1 s l.length vals)(hn:NodesIs w base vals l)(hl:l.length≤1000000) :
  Calls prog 281 #[.pointer (some ⟨bp,0,none⟩),.string name,.func (.func k) #[.agg #[.iface T v]] #[],s] w (MethP base w (one op x l)):=by
 have HK:=Hi hk;clear hk;have hR1:(w.alloc (.cells #[.nilIface] 299)).heap[w.heap.size]? =some (.cells #[.nilIface] 299 (0,0)):=Xa w _;have hb1:Below w.heap.size w (w.alloc (.cells #[.nilIface] 299)):=Qab w _;by_cases h1:l.length=1
 ·obtain⟨y,rfl⟩:=List.length_eq_one_iff.1 h1
  obtain⟨U,u,hu,hy⟩:=hn.2 0 y rfl;obtain⟨g,cap,c,rfl,hB,hg,hcap,_,hc⟩:=(Qes ho).resolve_left (fun h=>by simp at h);have c0:w.cell? ⟨g,0,none⟩=some (.iface U u):=Qaa hg ((hc 0 (by simp)).trans hu);have hlg:=Qad hg;clear ho hg hc;go_enter func281,ntmps281
  go_upto_region 1 with(fail)
  obtain⟨w1,hw⟩:∃w1,w.alloc (.cells #[.nilIface] 299)=w1:=⟨_,rfl⟩
  rw[hw]at hR1 hb1 ⊢;have c1:=QbR hb1 hlg c0;have hx1:=hx.later hb1;have hy1:=hy.later hb1;have hlt:=Qad hR1;have HR:=Hi hR1;clear hw c0 hR1
  go_wp2_with fail
  first | rw[hen,Oper.upon_enter] | skip
  refine(HK.out _ _ _ _ _).mono ?_;rintro e w2⟨rfl,hb⟩;obtain⟨z1,z2,z3⟩:=Qan hb HR.out;have hE:=Qap (w:=w) (R:=w.heap.size) (v:=.iface op (.agg #[.iface T v,.iface U u])) (Ext.below hb1) hb (by omega);have HE:=Hi (Xc hE ((NodeIs.bin op _ _ _ _ (hx1.later hb) (hy1.later hb)).store (o:=0) z3.out (by decide) (.iface op (.agg #[.iface T v,.iface U u]))));clear hb hE c1;go_wp2;exact Qai (R:=w.heap.size) _ 8 9 (by kernel_rfl) rfl rfl rfl (Qac (o:=0) z3.out _) ⟨HE.out.1,_,_,rfl,HE.out.2⟩
 ·have hone:one op x l=none:=by
   rcases l with _ | ⟨a,_ | ⟨b,l⟩⟩
   ·rfl
   ·exact absurd rfl h1
   ·rfl
  have HO:=Hi hone;clear hone;obtain⟨n,hnn⟩:∃n,l.length=n:=⟨_,rfl⟩
  obtain⟨p,cap,rfl⟩:∃p cap,s=.slice p n cap:=by
   rcases Qes ho with⟨h,rfl⟩ | ⟨g,cap,c,rfl,_⟩
   ·exact⟨none,0,by rw[←hnn,h]⟩
   ·exact⟨_,_,by rw[hnn]⟩
  rw[hnn]at h1 hl;have h1':(n:Int)≠1:=by omega
  clear ho hnn;go_enter func281,ntmps281
  go_upto_region 1 with(fail)
  obtain⟨w1,hw⟩:∃w1,w.alloc (.cells #[.nilIface] 299)=w1:=⟨_,rfl⟩
  rw[hw]at hR1 hb1 ⊢;have hp1:=hp.below hb1;have hlt:=Qad hR1;have HR:=Hi hR1;clear hw hR1
  go_wp2_with fail
  refine(Qay (hp1.below (Qab _ _)) _ _).mono ?_;rintro e w2⟨T9,v9,rfl,hb9⟩;have hb:Below w1.heap.size w1 w2:=(Qab w1 _).trans (hb9.mono (by simp));obtain⟨z1,z2,z3⟩:=Qan hb HR.out;have hE:=Qap (w:=w) (R:=w.heap.size) (v:=.nilIface) (Ext.below hb1) hb (by omega);have HE:=Hi hE;clear hb hE hb9;go_wp2;refine Qai (R:=w.heap.size) _ 8 9 (by kernel_rfl) rfl rfl rfl (Qac (o:=0) z3.out _) ?_;rw[HO.out];exact⟨HE.out,_,v9.to (fun _ h=>Qiq h),rfl⟩
theorem zero_c{w:World}{bp base B:Nat}{ts:Toks}{s:Value}{vals:List Value}{l:List Ex}{T:TypeId}{v:Value}{x:Ex}
  (name:ByteArray)(hp:PS w bp base ts)(hbs:base≤w.heap.size)(hx:NodeIs w base (.iface T v) x)(ho:w.ownsRow B 299 1 s l.length vals)(hn:NodesIs w base vals l)(hl:l.length≤1000000) :
  Calls prog 287 #[.pointer (some ⟨bp,0,none⟩),.string name,.func (.func 288) #[.agg #[.iface T v]] #[],s] w (MethP base w (zero x l)):=by
 have hR1:(w.alloc (.cells #[.nilIface] 299)).heap[w.heap.size]? =some (.cells #[.nilIface] 299 (0,0)):=Xa w _;have hb1:Below w.heap.size w (w.alloc (.cells #[.nilIface] 299)):=Qab w _;obtain⟨n,hnn⟩:∃n,l.length=n:=⟨_,rfl⟩
 obtain⟨p,cap,rfl⟩:∃p cap,s=.slice p n cap:=by
  rcases Qes ho with⟨h,rfl⟩ | ⟨g,cap,c,rfl,_⟩
  ·exact⟨none,0,by rw[←hnn,h]⟩
  ·exact⟨_,_,by rw[hnn]⟩
 rw[hnn]at hl;clear ho;by_cases h1:n=0
 ·have hz:zero x l=some (.una 210 x):=by
   cases l with
   | nil=>rfl
   | cons a l=>simp at hnn;omega
  have HO:=Hi hz;clear hz;subst h1;go_enter func287,ntmps287
  go_upto_region 1 with(fail)
  obtain⟨w1,hw⟩:∃w1,w.alloc (.cells #[.nilIface] 299)=w1:=⟨_,rfl⟩
  rw[hw]at hR1 hb1 ⊢;have hx1:=hx.later hb1;have hlt:=Qad hR1;have HR:=Hi hR1;clear hw hR1 hnn
  go_wp2_with fail
  refine(n288_c _ _ _).mono ?_;rintro e w2⟨rfl,hb⟩;obtain⟨z1,z2,z3⟩:=Qan hb HR.out;have hE:=Qap (w:=w) (R:=w.heap.size) (v:=.iface 210 (.agg #[.iface T v])) (Ext.below hb1) hb (by omega);have HE:=Hi (Xc hE ((NodeIs.una 210 _ _ (hx1.later hb)).store (o:=0) z3.out (by decide) (.iface 210 (.agg #[.iface T v]))));clear hb hE;go_wp2;refine Qai (R:=w.heap.size) _ 8 9 (by kernel_rfl) rfl rfl rfl (Qac (o:=0) z3.out _) ?_
  rw[HO.out];exact⟨HE.out.1,_,_,rfl,HE.out.2⟩
 ·have hone:zero x l=none:=by
   cases l with
   | nil=>simp at hnn;omega
   | cons a l=>rfl
  have HO:=Hi hone;clear hone;have h1':(n:Int)≠0:=by omega
  clear hnn;go_enter func287,ntmps287
  go_upto_region 1 with(fail)
  obtain⟨w1,hw⟩:∃w1,w.alloc (.cells #[.nilIface] 299)=w1:=⟨_,rfl⟩
  rw[hw]at hR1 hb1 ⊢;have hp1:=hp.below hb1;have hlt:=Qad hR1;have HR:=Hi hR1;clear hw hR1
  go_wp2_with fail
  refine(Qay (hp1.below (Qab _ _)) _ _).mono ?_;rintro e w2⟨T9,v9,rfl,hb9⟩;have hb:Below w1.heap.size w1 w2:=(Qab w1 _).trans (hb9.mono (by simp));obtain⟨z1,z2,z3⟩:=Qan hb HR.out;have hE:=Qap (w:=w) (R:=w.heap.size) (v:=.nilIface) (Ext.below hb1) hb (by omega);have HE:=Hi hE;clear hb hE hb9;go_wp2;refine Qai (R:=w.heap.size) _ 8 9 (by kernel_rfl) rfl rfl rfl (Qac (o:=0) z3.out _) ?_;rw[HO.out];exact⟨HE.out,_,v9.to (fun _ h=>Qiq h),rfl⟩
def ents:List (ByteArray×Int×Bool)→Nat→List MapEntry
 | [],_=>[]
 | (k,n,m)::l,i=>{key:=.string k,val:=.agg #[.int .i64 n,.bool m],born:=i}::ents l (i+1)
def extL:List (ByteArray×Int×Bool):=[(⟨#[105,112]⟩,1,false),(⟨#[100,101,99,105,109,97,108]⟩,1,false),(⟨#[100,97,116,101,116,105,109,101]⟩,1,false),(⟨#[100,117,114,97,116,105,111,110]⟩,1,false),(⟨#[108,101,115,115,84,104,97,110]⟩,2,true),(⟨#[108,101,115,115,84,104,97,110,79,114,69,113,117,97,108]⟩,2,true),(⟨#[103,114,101,97,116,101,114,84,104,97,110]⟩,2,true),(⟨#[103,114,101,97,116,101,114,84,104,97,110,79,114,69,113,117,97,108]⟩,2,true),(⟨#[105,115,73,112,118,52]⟩,1,true),(⟨#[105,115,73,112,118,54]⟩,1,true),(⟨#[105,115,76,111,111,112,98,97,99,107]⟩,1,true),(⟨#[105,115,77,117,108,116,105,99,97,115,116]⟩,1,true),(⟨#[105,115,73,110,82,97,110,103,101]⟩,2,true),(⟨#[116,111,68,97,116,101]⟩,1,true),(⟨#[116,111,84,105,109,101]⟩,1,true),(⟨#[111,102,102,115,101,116]⟩,2,true),(⟨#[100,117,114,97,116,105,111,110,83,105,110,99,101]⟩,2,true),(⟨#[116,111,68,97,121,115]⟩,1,true),(⟨#[116,111,72,111,117,114,115]⟩,1,true),(⟨#[116,111,77,105,110,117,116,101,115]⟩,1,true),(⟨#[116,111,83,101,99,111,110,100,115]⟩,1,true),(⟨#[116,111,77,105,108,108,105,115,101,99,111,110,100,115]⟩,1,true)]
def extE(i:Nat):Array MapEntry:=(ents (extL.take i) 0).toArray
def extM(s:ByteArray):Option (Int×Bool):=(extL.find? fun p=>s.toList==p.1.toList).map (·.2)
theorem mkey{P:Program}{t:TypeId}(hu:P.underlying t=some .string)(em:Bool)(v:Value)(w:World):(Instr.checkKey em 10000 t v).run P w=.ok () w:=by
 show(Instr.checkKey em (9999+1) t v).run P w=.ok () w;unfold Instr.checkKey;simp only[Sem.run_bind,run_underlying hu,Result.andThen_ok];rfl
theorem QgD(w:World)(x y:Obj):{w.alloc x with heap:=(w.alloc x).heap.setIfInBounds w.heap.size y}=w.alloc y:=by
 have h:(w.heap.push x).setIfInBounds w.heap.size y=w.heap.push y:=by
  apply Array.toList_inj.1;simp[List.set_append_right]
 show({w with heap:=(w.heap.push x).setIfInBounds w.heap.size y}:World)={w with heap:=w.heap.push y};rw[h]
theorem QaP{w:World}{es:Array MapEntry}{clock:Nat}{k:ByteArray}{v:Value}(hf:Instr.findNow .string (.string k) es.toList 0=some none) :
  (Instr.mapUpdate 422 (.map (some w.heap.size)) (.string k) v).run prog (w.alloc (.map es clock))=.ok () (w.alloc (.map (es.push {key:=.string k,val:=v,born:=clock}) (clock+1))):=by
 have ht:prog.underlying 422=some (.map 211 420):=by kernel_rfl
 have hkt:prog.underlying 211=some .string:=by kernel_rfl
 have hb:(w.alloc (.map es clock)).heap[w.heap.size]? =some (.map es clock):=Xa _ _;simp only[Instr.mapUpdate,Instr.findKey,Sem.run_bind,run_underlying ht,run_underlying hkt,Result.andThen_ok,getObj,Sem.run,hb,mkey hkt,hf,Sem.run_pure,setObj];exact congrArg (Result.ok ()) (QgD w (.map es clock) _)
theorem ext_ins0(w:World):(Instr.mapUpdate 422 (.map (some w.heap.size)) (.string ⟨#[105,112]⟩) (.agg #[.int .i64 1,.bool false])).run prog (w.alloc (.map (extE 0) 0))=.ok () (w.alloc (.map (extE 1) 1)):=by
 have e:(extE 0).push {key:=.string ⟨#[105,112]⟩,val:=(.agg #[.int .i64 1,.bool false]),born:=0}=extE 1:=by kernel_rfl
 rw[←e];exact QaP (by kernel_rfl)
theorem ext_ins1(w:World):(Instr.mapUpdate 422 (.map (some w.heap.size)) (.string ⟨#[100,101,99,105,109,97,108]⟩) (.agg #[.int .i64 1,.bool false])).run prog (w.alloc (.map (extE 1) 1))=.ok () (w.alloc (.map (extE 2) 2)):=by
 have e:(extE 1).push {key:=.string ⟨#[100,101,99,105,109,97,108]⟩,val:=(.agg #[.int .i64 1,.bool false]),born:=1}=extE 2:=by kernel_rfl
 rw[←e];exact QaP (by kernel_rfl)
theorem ext_ins2(w:World):(Instr.mapUpdate 422 (.map (some w.heap.size)) (.string ⟨#[100,97,116,101,116,105,109,101]⟩) (.agg #[.int .i64 1,.bool false])).run prog (w.alloc (.map (extE 2) 2))=.ok () (w.alloc (.map (extE 3) 3)):=by
 have e:(extE 2).push {key:=.string ⟨#[100,97,116,101,116,105,109,101]⟩,val:=(.agg #[.int .i64 1,.bool false]),born:=2}=extE 3:=by kernel_rfl
 rw[←e];exact QaP (by kernel_rfl)
theorem ext_ins3(w:World):(Instr.mapUpdate 422 (.map (some w.heap.size)) (.string ⟨#[100,117,114,97,116,105,111,110]⟩) (.agg #[.int .i64 1,.bool false])).run prog (w.alloc (.map (extE 3) 3))=.ok () (w.alloc (.map (extE 4) 4)):=by
 have e:(extE 3).push {key:=.string ⟨#[100,117,114,97,116,105,111,110]⟩,val:=(.agg #[.int .i64 1,.bool false]),born:=3}=extE 4:=by kernel_rfl
 rw[←e];exact QaP (by kernel_rfl)
theorem ext_ins4(w:World):(Instr.mapUpdate 422 (.map (some w.heap.size)) (.string ⟨#[108,101,115,115,84,104,97,110]⟩) (.agg #[.int .i64 2,.bool true])).run prog (w.alloc (.map (extE 4) 4))=.ok () (w.alloc (.map (extE 5) 5)):=by
 have e:(extE 4).push {key:=.string ⟨#[108,101,115,115,84,104,97,110]⟩,val:=(.agg #[.int .i64 2,.bool true]),born:=4}=extE 5:=by kernel_rfl
 rw[←e];exact QaP (by kernel_rfl)
theorem ext_ins5(w:World):(Instr.mapUpdate 422 (.map (some w.heap.size)) (.string ⟨#[108,101,115,115,84,104,97,110,79,114,69,113,117,97,108]⟩) (.agg #[.int .i64 2,.bool true])).run prog (w.alloc (.map (extE 5) 5))=.ok () (w.alloc (.map (extE 6) 6)):=by
 have e:(extE 5).push {key:=.string ⟨#[108,101,115,115,84,104,97,110,79,114,69,113,117,97,108]⟩,val:=(.agg #[.int .i64 2,.bool true]),born:=5}=extE 6:=by kernel_rfl
 rw[←e];exact QaP (by kernel_rfl)
theorem ext_ins6(w:World):(Instr.mapUpdate 422 (.map (some w.heap.size)) (.string ⟨#[103,114,101,97,116,101,114,84,104,97,110]⟩) (.agg #[.int .i64 2,.bool true])).run prog (w.alloc (.map (extE 6) 6))=.ok () (w.alloc (.map (extE 7) 7)):=by
 have e:(extE 6).push {key:=.string ⟨#[103,114,101,97,116,101,114,84,104,97,110]⟩,val:=(.agg #[.int .i64 2,.bool true]),born:=6}=extE 7:=by kernel_rfl
 rw[←e];exact QaP (by kernel_rfl)
theorem ext_ins7(w:World):(Instr.mapUpdate 422 (.map (some w.heap.size)) (.string ⟨#[103,114,101,97,116,101,114,84,104,97,110,79,114,69,113,117,97,108]⟩) (.agg #[.int .i64 2,.bool true])).run prog (w.alloc (.map (extE 7) 7))=.ok () (w.alloc (.map (extE 8) 8)):=by
 have e:(extE 7).push {key:=.string ⟨#[103,114,101,97,116,101,114,84,104,97,110,79,114,69,113,117,97,108]⟩,val:=(.agg #[.int .i64 2,.bool true]),born:=7}=extE 8:=by kernel_rfl
 rw[←e];exact QaP (by kernel_rfl)
theorem ext_ins8(w:World):(Instr.mapUpdate 422 (.map (some w.heap.size)) (.string ⟨#[105,115,73,112,118,52]⟩) (.agg #[.int .i64 1,.bool true])).run prog (w.alloc (.map (extE 8) 8))=.ok () (w.alloc (.map (extE 9) 9)):=by
 have e:(extE 8).push {key:=.string ⟨#[105,115,73,112,118,52]⟩,val:=(.agg #[.int .i64 1,.bool true]),born:=8}=extE 9:=by kernel_rfl
 rw[←e];exact QaP (by kernel_rfl)
theorem ext_ins9(w:World):(Instr.mapUpdate 422 (.map (some w.heap.size)) (.string ⟨#[105,115,73,112,118,54]⟩) (.agg #[.int .i64 1,.bool true])).run prog (w.alloc (.map (extE 9) 9))=.ok () (w.alloc (.map (extE 10) 10)):=by
 have e:(extE 9).push {key:=.string ⟨#[105,115,73,112,118,54]⟩,val:=(.agg #[.int .i64 1,.bool true]),born:=9}=extE 10:=by kernel_rfl
 rw[←e];exact QaP (by kernel_rfl)
theorem QgE(w:World):(Instr.mapUpdate 422 (.map (some w.heap.size)) (.string ⟨#[105,115,76,111,111,112,98,97,99,107]⟩) (.agg #[.int .i64 1,.bool true])).run prog (w.alloc (.map (extE 10) 10))=.ok () (w.alloc (.map (extE 11) 11)):=by
 have e:(extE 10).push {key:=.string ⟨#[105,115,76,111,111,112,98,97,99,107]⟩,val:=(.agg #[.int .i64 1,.bool true]),born:=10}=extE 11:=by kernel_rfl
 rw[←e];exact QaP (by kernel_rfl)
theorem QgF(w:World):(Instr.mapUpdate 422 (.map (some w.heap.size)) (.string ⟨#[105,115,77,117,108,116,105,99,97,115,116]⟩) (.agg #[.int .i64 1,.bool true])).run prog (w.alloc (.map (extE 11) 11))=.ok () (w.alloc (.map (extE 12) 12)):=by
 have e:(extE 11).push {key:=.string ⟨#[105,115,77,117,108,116,105,99,97,115,116]⟩,val:=(.agg #[.int .i64 1,.bool true]),born:=11}=extE 12:=by kernel_rfl
 rw[←e];exact QaP (by kernel_rfl)
theorem QgG(w:World):(Instr.mapUpdate 422 (.map (some w.heap.size)) (.string ⟨#[105,115,73,110,82,97,110,103,101]⟩) (.agg #[.int .i64 2,.bool true])).run prog (w.alloc (.map (extE 12) 12))=.ok () (w.alloc (.map (extE 13) 13)):=by
 have e:(extE 12).push {key:=.string ⟨#[105,115,73,110,82,97,110,103,101]⟩,val:=(.agg #[.int .i64 2,.bool true]),born:=12}=extE 13:=by kernel_rfl
 rw[←e];exact QaP (by kernel_rfl)
theorem QgH(w:World):(Instr.mapUpdate 422 (.map (some w.heap.size)) (.string ⟨#[116,111,68,97,116,101]⟩) (.agg #[.int .i64 1,.bool true])).run prog (w.alloc (.map (extE 13) 13))=.ok () (w.alloc (.map (extE 14) 14)):=by
 have e:(extE 13).push {key:=.string ⟨#[116,111,68,97,116,101]⟩,val:=(.agg #[.int .i64 1,.bool true]),born:=13}=extE 14:=by kernel_rfl
 rw[←e];exact QaP (by kernel_rfl)
theorem QgI(w:World):(Instr.mapUpdate 422 (.map (some w.heap.size)) (.string ⟨#[116,111,84,105,109,101]⟩) (.agg #[.int .i64 1,.bool true])).run prog (w.alloc (.map (extE 14) 14))=.ok () (w.alloc (.map (extE 15) 15)):=by
 have e:(extE 14).push {key:=.string ⟨#[116,111,84,105,109,101]⟩,val:=(.agg #[.int .i64 1,.bool true]),born:=14}=extE 15:=by kernel_rfl
 rw[←e];exact QaP (by kernel_rfl)
theorem QgJ(w:World):(Instr.mapUpdate 422 (.map (some w.heap.size)) (.string ⟨#[111,102,102,115,101,116]⟩) (.agg #[.int .i64 2,.bool true])).run prog (w.alloc (.map (extE 15) 15))=.ok () (w.alloc (.map (extE 16) 16)):=by
 have e:(extE 15).push {key:=.string ⟨#[111,102,102,115,101,116]⟩,val:=(.agg #[.int .i64 2,.bool true]),born:=15}=extE 16:=by kernel_rfl
 rw[←e];exact QaP (by kernel_rfl)
theorem QgK(w:World):(Instr.mapUpdate 422 (.map (some w.heap.size)) (.string ⟨#[100,117,114,97,116,105,111,110,83,105,110,99,101]⟩) (.agg #[.int .i64 2,.bool true])).run prog (w.alloc (.map (extE 16) 16))=.ok () (w.alloc (.map (extE 17) 17)):=by
 have e:(extE 16).push {key:=.string ⟨#[100,117,114,97,116,105,111,110,83,105,110,99,101]⟩,val:=(.agg #[.int .i64 2,.bool true]),born:=16}=extE 17:=by kernel_rfl
 rw[←e];exact QaP (by kernel_rfl)
theorem QgL(w:World):(Instr.mapUpdate 422 (.map (some w.heap.size)) (.string ⟨#[116,111,68,97,121,115]⟩) (.agg #[.int .i64 1,.bool true])).run prog (w.alloc (.map (extE 17) 17))=.ok () (w.alloc (.map (extE 18) 18)):=by
 have e:(extE 17).push {key:=.string ⟨#[116,111,68,97,121,115]⟩,val:=(.agg #[.int .i64 1,.bool true]),born:=17}=extE 18:=by kernel_rfl
 rw[←e];exact QaP (by kernel_rfl)
theorem QgM(w:World):(Instr.mapUpdate 422 (.map (some w.heap.size)) (.string ⟨#[116,111,72,111,117,114,115]⟩) (.agg #[.int .i64 1,.bool true])).run prog (w.alloc (.map (extE 18) 18))=.ok () (w.alloc (.map (extE 19) 19)):=by
 have e:(extE 18).push {key:=.string ⟨#[116,111,72,111,117,114,115]⟩,val:=(.agg #[.int .i64 1,.bool true]),born:=18}=extE 19:=by kernel_rfl
 rw[←e];exact QaP (by kernel_rfl)
theorem QgN(w:World):(Instr.mapUpdate 422 (.map (some w.heap.size)) (.string ⟨#[116,111,77,105,110,117,116,101,115]⟩) (.agg #[.int .i64 1,.bool true])).run prog (w.alloc (.map (extE 19) 19))=.ok () (w.alloc (.map (extE 20) 20)):=by
 have e:(extE 19).push {key:=.string ⟨#[116,111,77,105,110,117,116,101,115]⟩,val:=(.agg #[.int .i64 1,.bool true]),born:=19}=extE 20:=by kernel_rfl
 rw[←e];exact QaP (by kernel_rfl)
theorem QgO(w:World):(Instr.mapUpdate 422 (.map (some w.heap.size)) (.string ⟨#[116,111,83,101,99,111,110,100,115]⟩) (.agg #[.int .i64 1,.bool true])).run prog (w.alloc (.map (extE 20) 20))=.ok () (w.alloc (.map (extE 21) 21)):=by
 have e:(extE 20).push {key:=.string ⟨#[116,111,83,101,99,111,110,100,115]⟩,val:=(.agg #[.int .i64 1,.bool true]),born:=20}=extE 21:=by kernel_rfl
 rw[←e];exact QaP (by kernel_rfl)
theorem QgP(w:World):(Instr.mapUpdate 422 (.map (some w.heap.size)) (.string ⟨#[116,111,77,105,108,108,105,115,101,99,111,110,100,115]⟩) (.agg #[.int .i64 1,.bool true])).run prog (w.alloc (.map (extE 21) 21))=.ok () (w.alloc (.map (extE 22) 22)):=by
 have e:(extE 21).push {key:=.string ⟨#[116,111,77,105,108,108,105,115,101,99,111,110,100,115]⟩,val:=(.agg #[.int .i64 1,.bool true]),born:=21}=extE 22:=by kernel_rfl
 rw[←e];exact QaP (by kernel_rfl)
theorem Qfw(w:World):Calls prog 289 #[] w fun e w'=>e=.returned (.map (some w.heap.size))∧w'=w.alloc (.map (extE 22) 22):=by
 have hm:∀w:World,(Instr.makeMap 422 none).run prog w=.ok (.map (some w.heap.size)) (w.alloc (.map (extE 0) 0)):=fun w=>by kernel_rfl
 have h0:=ext_ins0 w;have h1:=ext_ins1 w;have h2:=ext_ins2 w;have h3:=ext_ins3 w;have h4:=ext_ins4 w;have h5:=ext_ins5 w;have h6:=ext_ins6 w;have h7:=ext_ins7 w;have h8:=ext_ins8 w;have h9:=ext_ins9 w;have h10:=QgE w;have h11:=QgF w;have h12:=QgG w;have h13:=QgH w;have h14:=QgI w;have h15:=QgJ w;have h16:=QgK w;have h17:=QgL w;have h18:=QgM w;have h19:=QgN w;have h20:=QgO w;have h21:=QgP w;go_enter func289,ntmps289
 go_wp2;go_ret;exact⟨rfl,rfl⟩
theorem Qcb(s k:ByteArray):Instr.sameNow .string (.string s) (.string k)=some (s.toList==k.toList):=by
 show some (s==k)=_;rw[beq_toListBytes]
theorem Qeu(s:ByteArray):∀(l:List (ByteArray×Int×Bool))(i j:Nat),match l.find? (fun p=>s.toList==p.1.toList)with
  | some p=>∃j',Instr.findNow .string (.string s) (ents l i) j=some (some (j',.agg #[.int .i64 p.2.1,.bool p.2.2]))
  | none=>Instr.findNow .string (.string s) (ents l i) j=some none
 | [],i,j=>rfl
 | (k,n,m)::l,i,j=>by
  have ih:=Qeu s l (i+1) (j+1);rw[List.find?_cons];cases h:(s.toList==k.toList)with
  | true=>exact⟨j,by simp[ents,Instr.findNow,Qcb,h]⟩
  | false=>simpa [ents,Instr.findNow,Qcb,h]using ih
def extV(s:ByteArray):Value:=match extM s with
 | some p=>.tuple #[.agg #[.int .i64 p.1,.bool p.2],.bool true]
 | none=>.tuple #[.agg #[.int .i64 0,.bool false],.bool false]
theorem Qfx{w:World}{b:Nat}(hb:w.heap[b]? =some (.map (extE 22) 22))(s:ByteArray):(Instr.lookup 422 (.map (some b)) (.string s) true).run prog w=.ok (extV s) w:=by
 have ht:prog.underlying 422=some (.map 211 420):=by kernel_rfl
 have hkt:prog.underlying 211=some .string:=by kernel_rfl
 have hz:(zeroValue 420).run prog w=.ok (.agg #[.int .i64 0,.bool false]) w:=by kernel_rfl
 have he:(extE 22).toList=ents extL 0:=by kernel_rfl
 have hf:=Qeu s extL 0 0;unfold extV extM;cases h:extL.find? (fun p=>s.toList==p.1.toList)with
 | some p =>
  rw[h]at hf;obtain⟨j,hf⟩:=hf;rw[←he]at hf;simp only[Instr.lookup,Instr.findKey,Sem.run_bind,run_underlying ht,run_underlying hkt,Result.andThen_ok,getObj,Sem.run,hb,mkey hkt,hf,Sem.run_pure,if_true,Option.map_some]
 | none =>
  rw[h]at hf;replace hf:Instr.findNow .string (.string s) (ents extL 0) 0=some none:=hf;rw[←he]at hf;simp only[Instr.lookup,Instr.findKey,Sem.run_bind,run_underlying ht,run_underlying hkt,Result.andThen_ok,getObj,Sem.run,hb,mkey hkt,hf,Sem.run_pure,hz,if_true,Option.map_none]
end Go.Proofs.Pg
