/- FnComma: a last comma changes nothing; for every world. Part 14. -/
import Derived.Test.YtmhjkkkhdlnngaaGreatDoorZ13
set_option linter.all false
set_option maxRecDepth 100000
set_option maxHeartbeats 40000000
namespace Go.Proofs.Pg
open Go.RowKit
attribute [local go_sem] Oper.semAt_some
def FnL(f:FuncId)(m:Ex→Toks→Option (Ex×Toks))(bp base N:Nat):Prop :=
 ∀w ts T v x,PS w bp base ts→Wf ts→ts.length≤N→base≤w.heap.size→NodeIs w base (.iface T v) x→Calls Tryz.prog f #[.pointer (some ⟨bp,0,none⟩),.agg #[.iface T v]] w (QfY bp base w (m x ts))
theorem rel_w{L:Lex}{E:Toks→Option (Ex×Toks)}{bp base N:Nat}(hE:Sh E)(hA:FnC 217 (add L E) bp base N)(hh:FnL 218 (has L) bp base N)(hl:FnL 219 (like L) bp base N)(hi:FnL 220 (is L E) bp base N):FnC 206 (relation L E) bp base N:=by
 intro w ts hp hwf hN hbs;have hbb:=hp.hbp;have HA:=Hi hA;have HH:=Hi hh;have HL:=Hi hl;have HI:=Hi hi;have HE:=Hi hE;clear hA hh hl hi hE;go_enter Tryz.func206,Tryz.ntmps206
 go_wp2_with fail
 refine(HA.out _ ts (hp.below (Qab _ _)) hwf hN (by simp;omega)).mono ?_;rintro e w1⟨hX,hr⟩;have hs1:w.heap.size+1≤w1.heap.size:=by have:=hX.size;simpa using this
 have hR1:w1.heap[w.heap.size]? =some (.cells #[.nilIface] 299 (0,0)):=hX.heap (by omega) (heap_alloc_new w _);have hX1:Ext (·=bp) w w1:=((Ext.refl _ w).alloc _).trans hX;clear hX;cases hm:add L E ts with
 | none =>
  rw[hm]at hr;obtain⟨T,v,rfl⟩:=hr;have HM:=Hi hm;clear hm;have c0:w1.cell? ⟨w.heap.size,0,none⟩=some .nilIface:=Qaa hR1 rfl;have f0:∀o,(w1.alloc o).frozen? ⟨w.heap.size,0,none⟩=false:=fun o=>Qae (Qaf hR1 o) 0
  have hlt:w.heap.size<w1.heap.size:=by omega
  have H1:=Hi hR1;clear hR1;go_wp2;exact Qai (R:=w.heap.size) _ 2 3 (by kernel_rfl) rfl rfl rfl (Qaf (Qac (o:=0) H1.out _) _) (Qak (by unfold Pg.relation;rw[HM.out]) ((hX1.set (.inr (Nat.le_refl _)) _).alloc _))
 | some p =>
  obtain⟨x,us⟩:=p;rw[hm]at hr;obtain⟨T,v,rfl,hp1,hn1⟩:=hr;have hsh:=Qer HE.out _ _ _ hwf hm;have hwu:=hsh.1.wf hwf;have HM:=Hi hm;clear hm
  go_upto_region 4 with(fail)
  obtain⟨w2,hw⟩:∃w2,w1.alloc (.cells #[.iface T v] 299)=w2:=⟨_,rfl⟩
  rw[hw];have hb:Below w1.heap.size w1 w2:=by rw[←hw];exact Qab _ _
  have hB2:w2.heap[w1.heap.size]? =some (.cells #[.iface T v] 299 (0,0)):=by rw[←hw];exact heap_alloc_new _ _
  have hp2:=hp1.below hb;have hX2:=hX1.trans (.below hb);have hs2:=hb.size;have hn2:=hn1.later hb;have hR2:=Bk hb hR1;clear hw hb hp1 hX1 hn1 hR1;obtain⟨t,r,rfl⟩:∃t r,us=t::r:=by cases us with | nil=>exact absurd rfl hp2.ne | cons t r=>exact⟨t,r,rfl⟩
  go_wp2_with fail
  refine(Qa7 hp2).mono ?_;rintro e w3'⟨rfl,hb3⟩
  go_upto_region 5 with(fail)
  obtain⟨w3,hw⟩:∃w3,w3'.alloc (.cells #[.int .i64 t.ty,.string t.fn,.int .i64 t.off,.int .i64 t.ln,.int .i64 t.col,.string t.tx] 122)=w3:=⟨_,rfl⟩
  rw[hw];have hb:Below w2.heap.size w2 w3:=by rw[←hw];exact hb3.trans ((Qab w3' _).mono hb3.size)
  have htok:w3.heap[w3'.heap.size]? =some (.cells t.row 122 (0,0)):=by rw[←hw];exact heap_alloc_new _ _
  have ctok:w3.cell? ⟨w3'.heap.size,5,none⟩=some (.string t.tx):=Qaa htok rfl;have hp3:=hp2.below hb;have hX3:=hX2.trans (.below hb);have hs3:=hb.size;have hn3:=hn2.later hb;have hB3:=Bk hb hB2;have hR3:=Bk hb hR2;clear hw hb hb3 hp2 hX2 hn2 hB2 hR2 htok;cases ht:(t.tx.toList==[104,97,115])with
  | true =>
   have hres:relation L E ts=has L x (adv (t::r)):=by unfold Pg.relation;rw[HM.out];simp only[tx,ht,Bool.false_eq_true,if_false,if_true]
   have HR:=Hi hres;clear hres;have hav:(adv (t::r)).length<(t::r).length:=Qax hwu (s:=[104,97,115]) ht (by decide)
   go_wp2_with fail
   refine(Qaz hp3).mono ?_;rintro e w4⟨rfl,hp4,hX⟩;have hs4:=hX.size;have hX4:=hX3.trans hX;have hn4:=hn3.keep hX (fun d hd=>by omega);have hB4:=hX.heap (by omega) hB3;have hR4:=hX.heap (by omega) hR3;clear hn3 hB3 hR3;clear hX hX3 hp3;have c1:w4.cell? ⟨w1.heap.size,0,none⟩=some (.iface T v):=Qaa hB4 rfl
   go_wp2_with fail
   refine(HH.out _ _ _ _ _ hp4 hwu.adv (by omega) (by have:=hX4.size;omega) hn4).mono ?_;rintro e w5⟨hX,hr⟩;have hR5:=hX.heap (by omega) hR4;have hX5:=hX4.trans hX;have c0:w5.cell? ⟨w.heap.size,0,none⟩=some .nilIface:=Qaa hR5 rfl;have f0:w5.frozen? ⟨w.heap.size,0,none⟩=false:=Qae hR5 0;have H5:=Hi hR5;clear hX hR5 hR4 hX4 hp4 hB4 hn4 c1 ctok;cases hm2:has L x (adv (t::r))with
   | none =>
    rw[hm2]at hr;obtain⟨T2,v2,rfl⟩:=hr;have HM2:=Hi hm2;clear hm2;go_wp2;exact Qai (R:=w.heap.size) _ 2 3 (by kernel_rfl) rfl rfl rfl (Qac (o:=0) H5.out _) (Qak (HR.out.trans HM2.out) (hX5.set (.inr (Nat.le_refl _)) _))
   | some p2 =>
    obtain⟨z,zs⟩:=p2;rw[hm2]at hr;obtain⟨T2,v2,rfl,hp5,hn5⟩:=hr;have HM2:=Hi hm2;clear hm2;go_wp2;exact Qai (R:=w.heap.size) _ 2 3 (by kernel_rfl) rfl rfl rfl (Qac (o:=0) H5.out _) (Qal (HR.out.trans HM2.out) (hX5.set (.inr (Nat.le_refl _)) _) (hp5.set (by omega) _) (hn5.store H5.out (by decide) _))
  | false =>
   have hthas:=ht;clear ht;cases ht:(t.tx.toList==[108,105,107,101])with
   | true =>
    have hres:relation L E ts=like L x (adv (t::r)):=by unfold Pg.relation;rw[HM.out];simp only[tx,hthas,ht,Bool.false_eq_true,if_false,if_true]
    have HR:=Hi hres;clear hres;have hav:(adv (t::r)).length<(t::r).length:=Qax hwu (s:=[108,105,107,101]) ht (by decide)
    go_wp2_with fail
    refine(Qaz hp3).mono ?_;rintro e w4⟨rfl,hp4,hX⟩;have hs4:=hX.size;have hX4:=hX3.trans hX;have hn4:=hn3.keep hX (fun d hd=>by omega);have hB4:=hX.heap (by omega) hB3;have hR4:=hX.heap (by omega) hR3;clear hn3 hB3 hR3;clear hX hX3 hp3;have c1:w4.cell? ⟨w1.heap.size,0,none⟩=some (.iface T v):=Qaa hB4 rfl
    go_wp2_with fail
    refine(HL.out _ _ _ _ _ hp4 hwu.adv (by omega) (by have:=hX4.size;omega) hn4).mono ?_;rintro e w5⟨hX,hr⟩;have hR5:=hX.heap (by omega) hR4;have hX5:=hX4.trans hX;have c0:w5.cell? ⟨w.heap.size,0,none⟩=some .nilIface:=Qaa hR5 rfl;have f0:w5.frozen? ⟨w.heap.size,0,none⟩=false:=Qae hR5 0;have H5:=Hi hR5;clear hX hR5 hR4 hX4 hp4 hB4 hn4 c1 ctok;cases hm2:like L x (adv (t::r))with
    | none =>
     rw[hm2]at hr;obtain⟨T2,v2,rfl⟩:=hr;have HM2:=Hi hm2;clear hm2;go_wp2;exact Qai (R:=w.heap.size) _ 2 3 (by kernel_rfl) rfl rfl rfl (Qac (o:=0) H5.out _) (Qak (HR.out.trans HM2.out) (hX5.set (.inr (Nat.le_refl _)) _))
    | some p2 =>
     obtain⟨z,zs⟩:=p2;rw[hm2]at hr;obtain⟨T2,v2,rfl,hp5,hn5⟩:=hr;have HM2:=Hi hm2;clear hm2;go_wp2;exact Qai (R:=w.heap.size) _ 2 3 (by kernel_rfl) rfl rfl rfl (Qac (o:=0) H5.out _) (Qal (HR.out.trans HM2.out) (hX5.set (.inr (Nat.le_refl _)) _) (hp5.set (by omega) _) (hn5.store H5.out (by decide) _))
   | false =>
    have htlike:=ht;clear ht;cases ht:(t.tx.toList==[105,115])with
    | true =>
     have hres:relation L E ts=is L E x (adv (t::r)):=by unfold Pg.relation;rw[HM.out];simp only[tx,hthas,htlike,ht,Bool.false_eq_true,if_false,if_true]
     have HR:=Hi hres;clear hres;have hav:(adv (t::r)).length<(t::r).length:=Qax hwu (s:=[105,115]) ht (by decide)
     go_wp2_with fail
     refine(Qaz hp3).mono ?_;rintro e w4⟨rfl,hp4,hX⟩;have hs4:=hX.size;have hX4:=hX3.trans hX;have hn4:=hn3.keep hX (fun d hd=>by omega);have hB4:=hX.heap (by omega) hB3;have hR4:=hX.heap (by omega) hR3;clear hn3 hB3 hR3;clear hX hX3 hp3;have c1:w4.cell? ⟨w1.heap.size,0,none⟩=some (.iface T v):=Qaa hB4 rfl
     go_wp2_with fail
     refine(HI.out _ _ _ _ _ hp4 hwu.adv (by omega) (by have:=hX4.size;omega) hn4).mono ?_;rintro e w5⟨hX,hr⟩;have hR5:=hX.heap (by omega) hR4;have hX5:=hX4.trans hX;have c0:w5.cell? ⟨w.heap.size,0,none⟩=some .nilIface:=Qaa hR5 rfl;have f0:w5.frozen? ⟨w.heap.size,0,none⟩=false:=Qae hR5 0;have H5:=Hi hR5;clear hX hR5 hR4 hX4 hp4 hB4 hn4 c1 ctok;cases hm2:is L E x (adv (t::r))with
     | none =>
      rw[hm2]at hr;obtain⟨T2,v2,rfl⟩:=hr;have HM2:=Hi hm2;clear hm2;go_wp2;exact Qai (R:=w.heap.size) _ 2 3 (by kernel_rfl) rfl rfl rfl (Qac (o:=0) H5.out _) (Qak (HR.out.trans HM2.out) (hX5.set (.inr (Nat.le_refl _)) _))
     | some p2 =>
      obtain⟨z,zs⟩:=p2;rw[hm2]at hr;obtain⟨T2,v2,rfl,hp5,hn5⟩:=hr;have HM2:=Hi hm2;clear hm2;go_wp2;exact Qai (R:=w.heap.size) _ 2 3 (by kernel_rfl) rfl rfl rfl (Qac (o:=0) H5.out _) (Qal (HR.out.trans HM2.out) (hX5.set (.inr (Nat.le_refl _)) _) (hp5.set (by omega) _) (hn5.store H5.out (by decide) _))
    | false =>
     have htis:=ht;clear ht;cases ht:(t.tx.toList==[60])with
     | true =>
      have hop:QbM t.tx.toList=some 263:=by simp only[QbM,ht,Bool.false_eq_true,if_false,if_true]
      have hav:(adv (t::r)).length<(t::r).length:=Qax hwu (s:=[60]) ht (by decide)
      go_wp2_with fail
      refine(Qaz hp3).mono ?_;rintro e w4⟨rfl,hp4,hX⟩;have hs4:=hX.size;have hX4:=hX3.trans hX;have hn4:=hn3.keep hX (fun d hd=>by omega);have hB4:=hX.heap (by omega) hB3;have hR4:=hX.heap (by omega) hR3;clear hn3 hB3 hR3;clear hX hX3 hp3;have c1:w4.cell? ⟨w1.heap.size,0,none⟩=some (.iface T v):=Qaa hB4 rfl
      go_wp2_with fail
      refine(HA.out _ _ hp4 hwu.adv (by omega) (by have:=hX4.size;omega)).mono ?_;rintro e w5⟨hX,hr⟩;have hs5:=hX.size;have hX5:=hX4.trans hX;have hn5:=hn4.keep hX (fun d hd=>by omega);have hB5:=hX.heap (by omega) hB4;have hR5:=hX.heap (by omega) hR4;clear hn4 hB4 hR4;clear hX hX4 hp4 c1 ctok;cases hm2:add L E (adv (t::r))with
      | none =>
       rw[hm2]at hr;obtain⟨T2,v2,rfl⟩:=hr;have hres:relation L E ts=none:=by unfold Pg.relation;rw[HM.out];simp only[tx,hthas,htlike,htis,Bool.false_eq_true,if_false,if_true,hop,hm2]
       have HR:=Hi hres;clear hres hm2 hop;have c0:w5.cell? ⟨w.heap.size,0,none⟩=some .nilIface:=Qaa hR5 rfl;have f0:∀o,(w5.alloc o).frozen? ⟨w.heap.size,0,none⟩=false:=fun o=>Qae (Qaf hR5 o) 0
       have hlt:=Qad hR5;have H5:=Hi hR5;clear hR5 hB5;go_wp2;exact Qai (R:=w.heap.size) _ 2 3 (by kernel_rfl) rfl rfl rfl (Qaf (Qac (o:=0) H5.out _) _) (Qak HR.out ((hX5.set (.inr (Nat.le_refl _)) _).alloc _))
      | some p2 =>
       obtain⟨z,zs⟩:=p2;rw[hm2]at hr;obtain⟨T2,v2,rfl,hp5,hz5⟩:=hr;have hres:relation L E ts=some (.bin 263 x z,zs):=by unfold Pg.relation;rw[HM.out];simp only[tx,hthas,htlike,htis,Bool.false_eq_true,if_false,if_true,hop,hm2]
       have HR:=Hi hres;clear hres hm2 hop;have c1:w5.cell? ⟨w1.heap.size,0,none⟩=some (.iface T v):=Qaa hB5 rfl;have hlt1:=Qad hB5;have hlt2:=Qad hR5;have HB5:=Hi hB5;have HR5:=Hi hR5;clear hB5 hR5
       go_wp2_with fail
       refine(n221_c _ _ _ _ _).mono ?_;rintro e w6⟨rfl,hb6⟩;have hb:Below w5.heap.size w5 w6:=(Qab w5 _).trans (hb6.mono (by simp));have hR6:=(hb.block _ hlt2).trans HR5.out;have c0:w6.cell? ⟨w.heap.size,0,none⟩=some .nilIface:=Qaa hR6 rfl;have f0:w6.frozen? ⟨w.heap.size,0,none⟩=false:=Qae hR6 0;have H6:=Hi hR6;clear hR6 c1 hb6;go_wp2;exact Qai (R:=w.heap.size) _ 2 3 (by kernel_rfl) rfl rfl rfl (Qac (o:=0) H6.out _) (Qal HR.out ((hX5.trans (.below hb)).set (.inr (Nat.le_refl _)) _) ((hp5.below hb).set (by omega) _) (.bin 263 _ _ _ _ ((hn5.later hb).store H6.out (by decide) _) ((hz5.later hb).store H6.out (by decide) _)))
     | false =>
      have hu0:=ht;clear ht;cases ht:(t.tx.toList==[60,61])with
      | true =>
       have hop:QbM t.tx.toList=some 264:=by simp only[QbM,hu0,ht,Bool.false_eq_true,if_false,if_true]
       have hav:(adv (t::r)).length<(t::r).length:=Qax hwu (s:=[60,61]) ht (by decide)
       go_wp2_with fail
       refine(Qaz hp3).mono ?_;rintro e w4⟨rfl,hp4,hX⟩;have hs4:=hX.size;have hX4:=hX3.trans hX;have hn4:=hn3.keep hX (fun d hd=>by omega);have hB4:=hX.heap (by omega) hB3;have hR4:=hX.heap (by omega) hR3;clear hn3 hB3 hR3;clear hX hX3 hp3;have c1:w4.cell? ⟨w1.heap.size,0,none⟩=some (.iface T v):=Qaa hB4 rfl
       go_wp2_with fail
       refine(HA.out _ _ hp4 hwu.adv (by omega) (by have:=hX4.size;omega)).mono ?_;rintro e w5⟨hX,hr⟩;have hs5:=hX.size;have hX5:=hX4.trans hX;have hn5:=hn4.keep hX (fun d hd=>by omega);have hB5:=hX.heap (by omega) hB4;have hR5:=hX.heap (by omega) hR4;clear hn4 hB4 hR4;clear hX hX4 hp4 c1 ctok;cases hm2:add L E (adv (t::r))with
       | none =>
        rw[hm2]at hr;obtain⟨T2,v2,rfl⟩:=hr;have hres:relation L E ts=none:=by unfold Pg.relation;rw[HM.out];simp only[tx,hthas,htlike,htis,Bool.false_eq_true,if_false,if_true,hop,hm2]
        have HR:=Hi hres;clear hres hm2 hop;have c0:w5.cell? ⟨w.heap.size,0,none⟩=some .nilIface:=Qaa hR5 rfl;have f0:∀o,(w5.alloc o).frozen? ⟨w.heap.size,0,none⟩=false:=fun o=>Qae (Qaf hR5 o) 0
        have hlt:=Qad hR5;have H5:=Hi hR5;clear hR5 hB5;go_wp2;exact Qai (R:=w.heap.size) _ 2 3 (by kernel_rfl) rfl rfl rfl (Qaf (Qac (o:=0) H5.out _) _) (Qak HR.out ((hX5.set (.inr (Nat.le_refl _)) _).alloc _))
       | some p2 =>
        obtain⟨z,zs⟩:=p2;rw[hm2]at hr;obtain⟨T2,v2,rfl,hp5,hz5⟩:=hr;have hres:relation L E ts=some (.bin 264 x z,zs):=by unfold Pg.relation;rw[HM.out];simp only[tx,hthas,htlike,htis,Bool.false_eq_true,if_false,if_true,hop,hm2]
        have HR:=Hi hres;clear hres hm2 hop;have c1:w5.cell? ⟨w1.heap.size,0,none⟩=some (.iface T v):=Qaa hB5 rfl;have hlt1:=Qad hB5;have hlt2:=Qad hR5;have HB5:=Hi hB5;have HR5:=Hi hR5;clear hB5 hR5
        go_wp2_with fail
        refine(n222_c _ _ _ _ _).mono ?_;rintro e w6⟨rfl,hb6⟩;have hb:Below w5.heap.size w5 w6:=(Qab w5 _).trans (hb6.mono (by simp));have hR6:=(hb.block _ hlt2).trans HR5.out;have c0:w6.cell? ⟨w.heap.size,0,none⟩=some .nilIface:=Qaa hR6 rfl;have f0:w6.frozen? ⟨w.heap.size,0,none⟩=false:=Qae hR6 0;have H6:=Hi hR6;clear hR6 c1 hb6;go_wp2;exact Qai (R:=w.heap.size) _ 2 3 (by kernel_rfl) rfl rfl rfl (Qac (o:=0) H6.out _) (Qal HR.out ((hX5.trans (.below hb)).set (.inr (Nat.le_refl _)) _) ((hp5.below hb).set (by omega) _) (.bin 264 _ _ _ _ ((hn5.later hb).store H6.out (by decide) _) ((hz5.later hb).store H6.out (by decide) _)))
      | false =>
       have hu1:=ht;clear ht;cases ht:(t.tx.toList==[62])with
       | true =>
        have hop:QbM t.tx.toList=some 265:=by simp only[QbM,hu0,hu1,ht,Bool.false_eq_true,if_false,if_true]
        have hav:(adv (t::r)).length<(t::r).length:=Qax hwu (s:=[62]) ht (by decide)
        go_wp2_with fail
        refine(Qaz hp3).mono ?_;rintro e w4⟨rfl,hp4,hX⟩;have hs4:=hX.size;have hX4:=hX3.trans hX;have hn4:=hn3.keep hX (fun d hd=>by omega);have hB4:=hX.heap (by omega) hB3;have hR4:=hX.heap (by omega) hR3;clear hn3 hB3 hR3;clear hX hX3 hp3;have c1:w4.cell? ⟨w1.heap.size,0,none⟩=some (.iface T v):=Qaa hB4 rfl
        go_wp2_with fail
        refine(HA.out _ _ hp4 hwu.adv (by omega) (by have:=hX4.size;omega)).mono ?_;rintro e w5⟨hX,hr⟩;have hs5:=hX.size;have hX5:=hX4.trans hX;have hn5:=hn4.keep hX (fun d hd=>by omega);have hB5:=hX.heap (by omega) hB4;have hR5:=hX.heap (by omega) hR4;clear hn4 hB4 hR4;clear hX hX4 hp4 c1 ctok;cases hm2:add L E (adv (t::r))with
        | none =>
         rw[hm2]at hr;obtain⟨T2,v2,rfl⟩:=hr;have hres:relation L E ts=none:=by unfold Pg.relation;rw[HM.out];simp only[tx,hthas,htlike,htis,Bool.false_eq_true,if_false,if_true,hop,hm2]
         have HR:=Hi hres;clear hres hm2 hop;have c0:w5.cell? ⟨w.heap.size,0,none⟩=some .nilIface:=Qaa hR5 rfl;have f0:∀o,(w5.alloc o).frozen? ⟨w.heap.size,0,none⟩=false:=fun o=>Qae (Qaf hR5 o) 0
         have hlt:=Qad hR5;have H5:=Hi hR5;clear hR5 hB5;go_wp2;exact Qai (R:=w.heap.size) _ 2 3 (by kernel_rfl) rfl rfl rfl (Qaf (Qac (o:=0) H5.out _) _) (Qak HR.out ((hX5.set (.inr (Nat.le_refl _)) _).alloc _))
        | some p2 =>
         obtain⟨z,zs⟩:=p2;rw[hm2]at hr;obtain⟨T2,v2,rfl,hp5,hz5⟩:=hr;have hres:relation L E ts=some (.bin 265 x z,zs):=by unfold Pg.relation;rw[HM.out];simp only[tx,hthas,htlike,htis,Bool.false_eq_true,if_false,if_true,hop,hm2]
         have HR:=Hi hres;clear hres hm2 hop;have c1:w5.cell? ⟨w1.heap.size,0,none⟩=some (.iface T v):=Qaa hB5 rfl;have hlt1:=Qad hB5;have hlt2:=Qad hR5;have HB5:=Hi hB5;have HR5:=Hi hR5;clear hB5 hR5
         go_wp2_with fail
         refine(n223_c _ _ _ _ _).mono ?_;rintro e w6⟨rfl,hb6⟩;have hb:Below w5.heap.size w5 w6:=(Qab w5 _).trans (hb6.mono (by simp));have hR6:=(hb.block _ hlt2).trans HR5.out;have c0:w6.cell? ⟨w.heap.size,0,none⟩=some .nilIface:=Qaa hR6 rfl;have f0:w6.frozen? ⟨w.heap.size,0,none⟩=false:=Qae hR6 0;have H6:=Hi hR6;clear hR6 c1 hb6;go_wp2;exact Qai (R:=w.heap.size) _ 2 3 (by kernel_rfl) rfl rfl rfl (Qac (o:=0) H6.out _) (Qal HR.out ((hX5.trans (.below hb)).set (.inr (Nat.le_refl _)) _) ((hp5.below hb).set (by omega) _) (.bin 265 _ _ _ _ ((hn5.later hb).store H6.out (by decide) _) ((hz5.later hb).store H6.out (by decide) _)))
       | false =>
        have hu2:=ht;clear ht;cases ht:(t.tx.toList==[62,61])with
        | true =>
         have hop:QbM t.tx.toList=some 266:=by simp only[QbM,hu0,hu1,hu2,ht,Bool.false_eq_true,if_false,if_true]
         have hav:(adv (t::r)).length<(t::r).length:=Qax hwu (s:=[62,61]) ht (by decide)
         go_wp2_with fail
         refine(Qaz hp3).mono ?_;rintro e w4⟨rfl,hp4,hX⟩;have hs4:=hX.size;have hX4:=hX3.trans hX;have hn4:=hn3.keep hX (fun d hd=>by omega);have hB4:=hX.heap (by omega) hB3;have hR4:=hX.heap (by omega) hR3;clear hn3 hB3 hR3;clear hX hX3 hp3;have c1:w4.cell? ⟨w1.heap.size,0,none⟩=some (.iface T v):=Qaa hB4 rfl
         go_wp2_with fail
         refine(HA.out _ _ hp4 hwu.adv (by omega) (by have:=hX4.size;omega)).mono ?_;rintro e w5⟨hX,hr⟩;have hs5:=hX.size;have hX5:=hX4.trans hX;have hn5:=hn4.keep hX (fun d hd=>by omega);have hB5:=hX.heap (by omega) hB4;have hR5:=hX.heap (by omega) hR4;clear hn4 hB4 hR4;clear hX hX4 hp4 c1 ctok;cases hm2:add L E (adv (t::r))with
         | none =>
          rw[hm2]at hr;obtain⟨T2,v2,rfl⟩:=hr;have hres:relation L E ts=none:=by unfold Pg.relation;rw[HM.out];simp only[tx,hthas,htlike,htis,Bool.false_eq_true,if_false,if_true,hop,hm2]
          have HR:=Hi hres;clear hres hm2 hop;have c0:w5.cell? ⟨w.heap.size,0,none⟩=some .nilIface:=Qaa hR5 rfl;have f0:∀o,(w5.alloc o).frozen? ⟨w.heap.size,0,none⟩=false:=fun o=>Qae (Qaf hR5 o) 0
          have hlt:=Qad hR5;have H5:=Hi hR5;clear hR5 hB5;go_wp2;exact Qai (R:=w.heap.size) _ 2 3 (by kernel_rfl) rfl rfl rfl (Qaf (Qac (o:=0) H5.out _) _) (Qak HR.out ((hX5.set (.inr (Nat.le_refl _)) _).alloc _))
         | some p2 =>
          obtain⟨z,zs⟩:=p2;rw[hm2]at hr;obtain⟨T2,v2,rfl,hp5,hz5⟩:=hr;have hres:relation L E ts=some (.bin 266 x z,zs):=by unfold Pg.relation;rw[HM.out];simp only[tx,hthas,htlike,htis,Bool.false_eq_true,if_false,if_true,hop,hm2]
          have HR:=Hi hres;clear hres hm2 hop;have c1:w5.cell? ⟨w1.heap.size,0,none⟩=some (.iface T v):=Qaa hB5 rfl;have hlt1:=Qad hB5;have hlt2:=Qad hR5;have HB5:=Hi hB5;have HR5:=Hi hR5;clear hB5 hR5
          go_wp2_with fail
          refine(n224_c _ _ _ _ _).mono ?_;rintro e w6⟨rfl,hb6⟩;have hb:Below w5.heap.size w5 w6:=(Qab w5 _).trans (hb6.mono (by simp));have hR6:=(hb.block _ hlt2).trans HR5.out;have c0:w6.cell? ⟨w.heap.size,0,none⟩=some .nilIface:=Qaa hR6 rfl;have f0:w6.frozen? ⟨w.heap.size,0,none⟩=false:=Qae hR6 0;have H6:=Hi hR6;clear hR6 c1 hb6;go_wp2;exact Qai (R:=w.heap.size) _ 2 3 (by kernel_rfl) rfl rfl rfl (Qac (o:=0) H6.out _) (Qal HR.out ((hX5.trans (.below hb)).set (.inr (Nat.le_refl _)) _) ((hp5.below hb).set (by omega) _) (.bin 266 _ _ _ _ ((hn5.later hb).store H6.out (by decide) _) ((hz5.later hb).store H6.out (by decide) _)))
        | false =>
         have hu3:=ht;clear ht;cases ht:(t.tx.toList==[33,61])with
         | true =>
          have hop:QbM t.tx.toList=some 267:=by simp only[QbM,hu0,hu1,hu2,hu3,ht,Bool.false_eq_true,if_false,if_true]
          have hav:(adv (t::r)).length<(t::r).length:=Qax hwu (s:=[33,61]) ht (by decide)
          go_wp2_with fail
          refine(Qaz hp3).mono ?_;rintro e w4⟨rfl,hp4,hX⟩;have hs4:=hX.size;have hX4:=hX3.trans hX;have hn4:=hn3.keep hX (fun d hd=>by omega);have hB4:=hX.heap (by omega) hB3;have hR4:=hX.heap (by omega) hR3;clear hn3 hB3 hR3;clear hX hX3 hp3;have c1:w4.cell? ⟨w1.heap.size,0,none⟩=some (.iface T v):=Qaa hB4 rfl
          go_wp2_with fail
          refine(HA.out _ _ hp4 hwu.adv (by omega) (by have:=hX4.size;omega)).mono ?_;rintro e w5⟨hX,hr⟩;have hs5:=hX.size;have hX5:=hX4.trans hX;have hn5:=hn4.keep hX (fun d hd=>by omega);have hB5:=hX.heap (by omega) hB4;have hR5:=hX.heap (by omega) hR4;clear hn4 hB4 hR4;clear hX hX4 hp4 c1 ctok;cases hm2:add L E (adv (t::r))with
          | none =>
           rw[hm2]at hr;obtain⟨T2,v2,rfl⟩:=hr;have hres:relation L E ts=none:=by unfold Pg.relation;rw[HM.out];simp only[tx,hthas,htlike,htis,Bool.false_eq_true,if_false,if_true,hop,hm2]
           have HR:=Hi hres;clear hres hm2 hop;have c0:w5.cell? ⟨w.heap.size,0,none⟩=some .nilIface:=Qaa hR5 rfl;have f0:∀o,(w5.alloc o).frozen? ⟨w.heap.size,0,none⟩=false:=fun o=>Qae (Qaf hR5 o) 0
           have hlt:=Qad hR5;have H5:=Hi hR5;clear hR5 hB5;go_wp2;exact Qai (R:=w.heap.size) _ 2 3 (by kernel_rfl) rfl rfl rfl (Qaf (Qac (o:=0) H5.out _) _) (Qak HR.out ((hX5.set (.inr (Nat.le_refl _)) _).alloc _))
          | some p2 =>
           obtain⟨z,zs⟩:=p2;rw[hm2]at hr;obtain⟨T2,v2,rfl,hp5,hz5⟩:=hr;have hres:relation L E ts=some (.bin 267 x z,zs):=by unfold Pg.relation;rw[HM.out];simp only[tx,hthas,htlike,htis,Bool.false_eq_true,if_false,if_true,hop,hm2]
           have HR:=Hi hres;clear hres hm2 hop;have c1:w5.cell? ⟨w1.heap.size,0,none⟩=some (.iface T v):=Qaa hB5 rfl;have hlt1:=Qad hB5;have hlt2:=Qad hR5;have HB5:=Hi hB5;have HR5:=Hi hR5;clear hB5 hR5
           go_wp2_with fail
           refine(n225_c _ _ _ _ _).mono ?_;rintro e w6⟨rfl,hb6⟩;have hb:Below w5.heap.size w5 w6:=(Qab w5 _).trans (hb6.mono (by simp));have hR6:=(hb.block _ hlt2).trans HR5.out;have c0:w6.cell? ⟨w.heap.size,0,none⟩=some .nilIface:=Qaa hR6 rfl;have f0:w6.frozen? ⟨w.heap.size,0,none⟩=false:=Qae hR6 0;have H6:=Hi hR6;clear hR6 c1 hb6;go_wp2;exact Qai (R:=w.heap.size) _ 2 3 (by kernel_rfl) rfl rfl rfl (Qac (o:=0) H6.out _) (Qal HR.out ((hX5.trans (.below hb)).set (.inr (Nat.le_refl _)) _) ((hp5.below hb).set (by omega) _) (.bin 267 _ _ _ _ ((hn5.later hb).store H6.out (by decide) _) ((hz5.later hb).store H6.out (by decide) _)))
         | false =>
          have hu4:=ht;clear ht;cases ht:(t.tx.toList==[61,61])with
          | true =>
           have hop:QbM t.tx.toList=some 268:=by simp only[QbM,hu0,hu1,hu2,hu3,hu4,ht,Bool.false_eq_true,if_false,if_true]
           have hav:(adv (t::r)).length<(t::r).length:=Qax hwu (s:=[61,61]) ht (by decide)
           go_wp2_with fail
           refine(Qaz hp3).mono ?_;rintro e w4⟨rfl,hp4,hX⟩;have hs4:=hX.size;have hX4:=hX3.trans hX;have hn4:=hn3.keep hX (fun d hd=>by omega);have hB4:=hX.heap (by omega) hB3;have hR4:=hX.heap (by omega) hR3;clear hn3 hB3 hR3;clear hX hX3 hp3;have c1:w4.cell? ⟨w1.heap.size,0,none⟩=some (.iface T v):=Qaa hB4 rfl
           go_wp2_with fail
           refine(HA.out _ _ hp4 hwu.adv (by omega) (by have:=hX4.size;omega)).mono ?_;rintro e w5⟨hX,hr⟩;have hs5:=hX.size;have hX5:=hX4.trans hX;have hn5:=hn4.keep hX (fun d hd=>by omega);have hB5:=hX.heap (by omega) hB4;have hR5:=hX.heap (by omega) hR4;clear hn4 hB4 hR4;clear hX hX4 hp4 c1 ctok;cases hm2:add L E (adv (t::r))with
           | none =>
            rw[hm2]at hr;obtain⟨T2,v2,rfl⟩:=hr;have hres:relation L E ts=none:=by unfold Pg.relation;rw[HM.out];simp only[tx,hthas,htlike,htis,Bool.false_eq_true,if_false,if_true,hop,hm2]
            have HR:=Hi hres;clear hres hm2 hop;have c0:w5.cell? ⟨w.heap.size,0,none⟩=some .nilIface:=Qaa hR5 rfl;have f0:∀o,(w5.alloc o).frozen? ⟨w.heap.size,0,none⟩=false:=fun o=>Qae (Qaf hR5 o) 0
            have hlt:=Qad hR5;have H5:=Hi hR5;clear hR5 hB5;go_wp2;exact Qai (R:=w.heap.size) _ 2 3 (by kernel_rfl) rfl rfl rfl (Qaf (Qac (o:=0) H5.out _) _) (Qak HR.out ((hX5.set (.inr (Nat.le_refl _)) _).alloc _))
           | some p2 =>
            obtain⟨z,zs⟩:=p2;rw[hm2]at hr;obtain⟨T2,v2,rfl,hp5,hz5⟩:=hr;have hres:relation L E ts=some (.bin 268 x z,zs):=by unfold Pg.relation;rw[HM.out];simp only[tx,hthas,htlike,htis,Bool.false_eq_true,if_false,if_true,hop,hm2]
            have HR:=Hi hres;clear hres hm2 hop;have c1:w5.cell? ⟨w1.heap.size,0,none⟩=some (.iface T v):=Qaa hB5 rfl;have hlt1:=Qad hB5;have hlt2:=Qad hR5;have HB5:=Hi hB5;have HR5:=Hi hR5;clear hB5 hR5
            go_wp2_with fail
            refine(n226_c _ _ _ _ _).mono ?_;rintro e w6⟨rfl,hb6⟩;have hb:Below w5.heap.size w5 w6:=(Qab w5 _).trans (hb6.mono (by simp));have hR6:=(hb.block _ hlt2).trans HR5.out;have c0:w6.cell? ⟨w.heap.size,0,none⟩=some .nilIface:=Qaa hR6 rfl;have f0:w6.frozen? ⟨w.heap.size,0,none⟩=false:=Qae hR6 0;have H6:=Hi hR6;clear hR6 c1 hb6;go_wp2;exact Qai (R:=w.heap.size) _ 2 3 (by kernel_rfl) rfl rfl rfl (Qac (o:=0) H6.out _) (Qal HR.out ((hX5.trans (.below hb)).set (.inr (Nat.le_refl _)) _) ((hp5.below hb).set (by omega) _) (.bin 268 _ _ _ _ ((hn5.later hb).store H6.out (by decide) _) ((hz5.later hb).store H6.out (by decide) _)))
          | false =>
           have hu5:=ht;clear ht;cases ht:(t.tx.toList==[105,110])with
           | true =>
            have hop:QbM t.tx.toList=some 269:=by simp only[QbM,hu0,hu1,hu2,hu3,hu4,hu5,ht,Bool.false_eq_true,if_false,if_true]
            have hav:(adv (t::r)).length<(t::r).length:=Qax hwu (s:=[105,110]) ht (by decide)
            go_wp2_with fail
            refine(Qaz hp3).mono ?_;rintro e w4⟨rfl,hp4,hX⟩;have hs4:=hX.size;have hX4:=hX3.trans hX;have hn4:=hn3.keep hX (fun d hd=>by omega);have hB4:=hX.heap (by omega) hB3;have hR4:=hX.heap (by omega) hR3;clear hn3 hB3 hR3;clear hX hX3 hp3;have c1:w4.cell? ⟨w1.heap.size,0,none⟩=some (.iface T v):=Qaa hB4 rfl
            go_wp2_with fail
            refine(HA.out _ _ hp4 hwu.adv (by omega) (by have:=hX4.size;omega)).mono ?_;rintro e w5⟨hX,hr⟩;have hs5:=hX.size;have hX5:=hX4.trans hX;have hn5:=hn4.keep hX (fun d hd=>by omega);have hB5:=hX.heap (by omega) hB4;have hR5:=hX.heap (by omega) hR4;clear hn4 hB4 hR4;clear hX hX4 hp4 c1 ctok;cases hm2:add L E (adv (t::r))with
            | none =>
             rw[hm2]at hr;obtain⟨T2,v2,rfl⟩:=hr;have hres:relation L E ts=none:=by unfold Pg.relation;rw[HM.out];simp only[tx,hthas,htlike,htis,Bool.false_eq_true,if_false,if_true,hop,hm2]
             have HR:=Hi hres;clear hres hm2 hop;have c0:w5.cell? ⟨w.heap.size,0,none⟩=some .nilIface:=Qaa hR5 rfl;have f0:∀o,(w5.alloc o).frozen? ⟨w.heap.size,0,none⟩=false:=fun o=>Qae (Qaf hR5 o) 0
             have hlt:=Qad hR5;have H5:=Hi hR5;clear hR5 hB5;go_wp2;exact Qai (R:=w.heap.size) _ 2 3 (by kernel_rfl) rfl rfl rfl (Qaf (Qac (o:=0) H5.out _) _) (Qak HR.out ((hX5.set (.inr (Nat.le_refl _)) _).alloc _))
            | some p2 =>
             obtain⟨z,zs⟩:=p2;rw[hm2]at hr;obtain⟨T2,v2,rfl,hp5,hz5⟩:=hr;have hres:relation L E ts=some (.bin 269 x z,zs):=by unfold Pg.relation;rw[HM.out];simp only[tx,hthas,htlike,htis,Bool.false_eq_true,if_false,if_true,hop,hm2]
             have HR:=Hi hres;clear hres hm2 hop;have c1:w5.cell? ⟨w1.heap.size,0,none⟩=some (.iface T v):=Qaa hB5 rfl;have hlt1:=Qad hB5;have hlt2:=Qad hR5;have HB5:=Hi hB5;have HR5:=Hi hR5;clear hB5 hR5
             go_wp2_with fail
             refine(n227_c _ _ _ _ _).mono ?_;rintro e w6⟨rfl,hb6⟩;have hb:Below w5.heap.size w5 w6:=(Qab w5 _).trans (hb6.mono (by simp));have hR6:=(hb.block _ hlt2).trans HR5.out;have c0:w6.cell? ⟨w.heap.size,0,none⟩=some .nilIface:=Qaa hR6 rfl;have f0:w6.frozen? ⟨w.heap.size,0,none⟩=false:=Qae hR6 0;have H6:=Hi hR6;clear hR6 c1 hb6;go_wp2;exact Qai (R:=w.heap.size) _ 2 3 (by kernel_rfl) rfl rfl rfl (Qac (o:=0) H6.out _) (Qal HR.out ((hX5.trans (.below hb)).set (.inr (Nat.le_refl _)) _) ((hp5.below hb).set (by omega) _) (.bin 269 _ _ _ _ ((hn5.later hb).store H6.out (by decide) _) ((hz5.later hb).store H6.out (by decide) _)))
           | false =>
            have hu6:=ht;clear ht;have hop:QbM t.tx.toList=none:=by simp only[QbM,hu0,hu1,hu2,hu3,hu4,hu5,hu6,Bool.false_eq_true,if_false,if_true]
            have hres:relation L E ts=some (x,t::r):=by unfold Pg.relation;rw[HM.out];simp only[tx,hthas,htlike,htis,Bool.false_eq_true,if_false,if_true,hop]
            have HR:=Hi hres;clear hres hop;have c1:w3.cell? ⟨w1.heap.size,0,none⟩=some (.iface T v):=Qaa hB3 rfl;have c0:w3.cell? ⟨w.heap.size,0,none⟩=some .nilIface:=Qaa hR3 rfl;have f0:w3.frozen? ⟨w.heap.size,0,none⟩=false:=Qae hR3 0;have H3:=Hi hR3;clear hR3 hB3;go_wp2;exact Qai (R:=w.heap.size) _ 2 3 (by kernel_rfl) rfl rfl rfl (Qac (o:=0) H3.out _) (Qal HR.out (hX3.set (.inr (Nat.le_refl _)) _) (hp3.set (by omega) _) (hn3.store H3.out (by decide) _))
theorem is_w{L:Lex}{E:Toks→Option (Ex×Toks)}{bp base N:Nat}(hE:Sh E)(hA:FnC 217 (add L E) bp base N):FnL 220 (is L E) bp base N:=by
 intro w ts T v x hp hwf hN hbs hx_w;have hbb:=hp.hbp;have HA:=Hi hA;have HE:=Hi hE;clear hA hE;go_enter Tryz.func220,Tryz.ntmps220
 go_upto_region 1 with(fail)
 obtain⟨w1,hw⟩:∃w1,((w.alloc (.cells #[.iface T v] 299)).alloc (.cells #[.nilIface] 299))=w1:=⟨_,rfl⟩
 rw[hw];have hF:Below w.heap.size w w1:=by rw[←hw];exact(Qab w _).alloc (by simp) _
 have hL1:w1.heap[w.heap.size]? =some (.cells #[.iface T v] 299 (0,0)):=by rw[←hw];exact Qaf (Qah (by simp) _) _
 have hR1:w1.heap[w.heap.size+1]? =some (.cells #[.nilIface] 299 (0,0)):=by rw[←hw];exact Qah (by simp) _
 have hs1:w.heap.size+2≤w1.heap.size:=by rw[←hw];simp
 clear hw;have hx1:=hx_w.later hF;have hX1:Ext (·=bp) w w1:=.below hF;have hp1:=hp.below hF;clear hx_w hp;clear hF
 go_wp2_with fail
 refine(Qg7 _ ts hp1 hwf (by omega)).mono ?_;rintro e w2⟨hF,hr⟩;have hx2:=hx1.keep hF (fun d hd=>by omega);have hL2:=hF.heap (by omega) hL1;have hR2:=hF.heap (by omega) hR1;have hs2:=hF.size;have hX2:=hX1.trans hF;clear hx1 hL1 hR1 hX1;clear hF;cases hm:path ts with
 | none =>
  rw[hm]at hr;obtain⟨s,T2,v2,rfl⟩:=hr;have c_hR_0:=Qaa (o:=0) hR2 rfl;have f_hR:=Qae hR2 0;have lt_hR:=Qad hR2;have HR:=Hi (show is L E x ts=none by unfold Pg.is;rw[hm]);have HB:=Hi hR2;clear hR2;go_wp2;refine Qai (R:=w.heap.size+1) _ 4 5 (by kernel_rfl) rfl rfl rfl (Qac (o:=0) HB.out _) ?_;exact(Qak HR.out (hX2.set (p:=⟨w.heap.size+1,0,none⟩) (.inr (show _≤w.heap.size+1 by omega)) _))
 | some p0 =>
  obtain⟨s,us⟩:=p0;rw[hm]at hr;obtain⟨rfl,hp0,hz⟩:=hr;have hsh:=QcR _ _ _ hwf hm;have hwu:=hsh.1.wf hwf;have HM:=Hi hm;clear hm;obtain⟨t,r,rfl⟩:∃t r,us=t::r:=by cases us with | nil=>exact absurd rfl hp0.ne | cons t r=>exact⟨t,r,rfl⟩
  go_wp2_with fail
  refine(Qa7 hp0).mono ?_;rintro e w3⟨rfl,hF⟩;have hx3:=hx2.later hF;have hL3:=Bk hF hL2;have hR3:=Bk hF hR2;have hs3:=hF.size;have hX3:=hX2.trans (.below hF);have hp3:=hp0.below hF;clear hx2 hL2 hR2 hX2 hp0;clear hF;cases ht:(t.tx.toList==[105,110])with
  | false =>
   have c_hL_0:=Qaa (o:=0) hL3 rfl;have lt_hL:=Qad hL3;have lt_hR:=Qad hR3
   go_wp2_with fail
   refine(n238_c _ _ _ _).mono ?_;rintro e w4⟨rfl,hF⟩;have hx4:=hx3.later hF;have hL4:=Bk hF hL3;have hR4:=Bk hF hR3;have hs4:=hF.size;have hX4:=hX3.trans (.below hF);have hp4:=hp3.below hF;clear hx3 hL3 hR3 hX3 hp3 c_hL_0 lt_hL lt_hR;clear hF;have c_hR_0:=Qaa (o:=0) hR4 rfl;have f_hR:=Qae hR4 0;have lt_hR:=Qad hR4;have HR:=Hi (show is L E x ts=some (.sop 202 x s,t::r)by unfold Pg.is;rw[HM.out];simp[tx,ht])
   have HB:=Hi hR4;clear hR4;go_wp2;refine Qai (R:=w.heap.size+1) _ 4 5 (by kernel_rfl) rfl rfl rfl (Qac (o:=0) HB.out _) ?_;exact(Qal HR.out (hX4.set (p:=⟨w.heap.size+1,0,none⟩) (.inr (show _≤w.heap.size+1 by omega)) _) (hp4.set (o:=0) (by omega) _) (NodeIs.store (o:=0) (.sop 202 _ _ _ hx4) HB.out (by decide) _))
  | true =>
   have hav:(adv (t::r)).length<(t::r).length:=Qax hwu (s:=[105,110]) ht (by decide)
   go_wp2_with fail
   refine(Qaz hp3).mono ?_;rintro e w4⟨rfl,hp4,hF⟩;have hx4:=hx3.keep hF (fun d hd=>by omega);have hL4:=hF.heap (by omega) hL3;have hR4:=hF.heap (by omega) hR3;have hs4:=hF.size;have hX4:=hX3.trans hF;clear hx3 hL3 hR3 hX3 hp3;clear hF
   go_wp2_with fail
   refine(HA.out _ _ hp4 hwu.adv (by omega) (by omega)).mono ?_;rintro e w5⟨hF,hr⟩;have hx5:=hx4.keep hF (fun d hd=>by omega);have hL5:=hF.heap (by omega) hL4;have hR5:=hF.heap (by omega) hR4;have hs5:=hF.size;have hX5:=hX4.trans hF;clear hx4 hL4 hR4 hX4;clear hF;cases hm2:add L E (adv (t::r))with
   | none =>
    rw[hm2]at hr;obtain⟨T2,v2,rfl⟩:=hr;have c_hR_0:=Qaa (o:=0) hR5 rfl;have f_hR:∀o,(w5.alloc o).frozen? ⟨w.heap.size+1,0,none⟩=false:=fun o=>Qae (Qaf hR5 o) 0
    have lt_hR:=Qad hR5;have HR:=Hi (show is L E x ts=none by unfold Pg.is;rw[HM.out];simp[tx,ht,hm2]);have HB:=Hi hR5;clear hR5;go_wp2;refine Qai (R:=w.heap.size+1) _ 4 5 (by kernel_rfl) rfl rfl rfl (Qaf (Qac (o:=0) HB.out _) _) ?_;exact(Qak HR.out ((hX5.set (p:=⟨w.heap.size+1,0,none⟩) (.inr (show _≤w.heap.size+1 by omega)) _).alloc _))
   | some p2 =>
    obtain⟨z,zs⟩:=p2;rw[hm2]at hr;obtain⟨T2,v2,rfl,hp2,hz5⟩:=hr;have HM2:=Hi hm2;clear hm2;have c_hL_0:=Qaa (o:=0) hL5 rfl;have lt_hL:=Qad hL5;have lt_hR:=Qad hR5
    go_wp2_with fail
    have hb0:=Qab w5 (.cells #[.iface T2 v2] 299);refine(n237_c _ _ _ _ _ _).mono ?_;rintro e w6⟨rfl,hF0⟩;have hF:=hb0.trans (hF0.mono hb0.size);clear hF0 hb0;have hx6:=hx5.later hF;have hz6:=hz5.later hF;have hL6:=Bk hF hL5;have hR6:=Bk hF hR5;have hs6:=hF.size;have hX6:=hX5.trans (.below hF);have hp6:=hp2.below hF;clear hx5 hz5 hL5 hR5 hX5 hp2 c_hL_0 lt_hL lt_hR;clear hF;have c_hR_0:=Qaa (o:=0) hR6 rfl
    have f_hR:=Qae hR6 0;have lt_hR:=Qad hR6;have HR:=Hi (show is L E x ts=some (.isIn x s z,zs)by unfold Pg.is;rw[HM.out];simp[tx,ht,HM2.out]);have HB:=Hi hR6;clear hR6;go_wp2;refine Qai (R:=w.heap.size+1) _ 4 5 (by kernel_rfl) rfl rfl rfl (Qac (o:=0) HB.out _) ?_;exact(Qal HR.out (hX6.set (p:=⟨w.heap.size+1,0,none⟩) (.inr (show _≤w.heap.size+1 by omega)) _) (hp6.set (o:=0) (by omega) _) (NodeIs.store (o:=0) (.isIn _ _ _ _ _ hx6 hz6) HB.out (by decide) _))
end Go.Proofs.Pg
