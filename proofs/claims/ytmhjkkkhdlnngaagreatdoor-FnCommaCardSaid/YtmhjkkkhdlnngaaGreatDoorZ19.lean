/- FnComma: a last comma changes nothing; for every world. Part 19. -/
import Derived.Test.YtmhjkkkhdlnngaaGreatDoorZ18
set_option linter.all false
set_option maxRecDepth 100000
set_option maxHeartbeats 40000000
namespace Go.Proofs.Pg
open Go.RowKit
attribute [local go_sem] Oper.semAt_some
theorem QaM{W:World}{fn:Func}{R:Nat}{v b err:Value}{Q:Ending→World→Prop}(a:Act)(hf:fn.results=#[.cell 4 299,.tmp 5,.tmp 6])(ha:a.tmps.getD 4 undef=.pointer (some ⟨R,0,none⟩))(hb:a.tmps.getD 5 undef=b)(he:a.tmps.getD 6 undef=err)(had:a.defers=[])
  (r:W.heap[R]? =some (.cells #[v] 299 (0,0)))(h:Q (.returned (.tuple #[.agg #[v],b,err])) W):bodyPost Tryz.prog fn Q Exit.ret a W:=by
 refine bodyPost_ret (QcO (a:=4) (u:=5) (v:=6) (t:=299) hf _ ⟨R,0,none⟩ ha _ _ (QcP _ _ _ _ (by kernel_rfl) (by kernel_rfl) (Qaa (o:=0) r rfl))) had ?_;rw[he,hb];exact h
theorem QaW{bp base:Nat}{w w':World}{lhs:Value}{ts:Toks}{r:Option (Option (Ex×Toks))}{T:TypeId}{v:Value}(h:r=none)(hX:Ext (·=bp) w w'):AccP bp base w lhs ts r (.returned (.tuple #[.agg #[.nilIface],.bool false,.iface T v])) w':=by subst h;exact⟨hX,_,_,rfl⟩
theorem accP_end{bp base:Nat}{w w':World}{lhs:Value}{ts:Toks}{r:Option (Option (Ex×Toks))}(h:r=some none)(hX:Ext (·=bp) w w')(hp:PS w' bp base ts):AccP bp base w lhs ts r (.returned (.tuple #[.agg #[lhs],.bool false,.nilIface])) w':=by subst h;exact⟨hX,rfl,hp⟩
theorem Qbl{bp base:Nat}{w w':World}{lhs:Value}{ts us:Toks}{r:Option (Option (Ex×Toks))}{T:TypeId}{v:Value}{x:Ex}(h:r=some (some (x,us)))(hX:Ext (·=bp) w w')(hp:PS w' bp base us)(hn:NodeIs w' base (.iface T v) x):AccP bp base w lhs ts r (.returned (.tuple #[.agg #[.iface T v],.bool true,.nilIface])) w':=by subst h;exact⟨hX,_,_,rfl,hp,hn⟩
theorem enter283(args:Array Value)(w:World):(callFunc 283 args).run Tryz.prog w=.ok (.enter 283 args) w:=by kernel_rfl
theorem enter284(args:Array Value)(w:World):(callFunc 284 args).run Tryz.prog w=.ok (.enter 284 args) w:=by kernel_rfl
theorem enter285(args:Array Value)(w:World):(callFunc 285 args).run Tryz.prog w=.ok (.enter 285 args) w:=by kernel_rfl
theorem enter286(args:Array Value)(w:World):(callFunc 286 args).run Tryz.prog w=.ok (.enter 286 args) w:=by kernel_rfl
theorem access_w{L:Lex}(hL:LexC L)(hext:∀s,L.ext s=(extM s).map (·.2)){E:Toks→Option (Ex×Toks)}{bp base N:Nat}(hE:Sh E)(hX:Qg8 (⟨#[41]⟩:ByteArray) (Qbr E [41]) bp base N):AccC 258 (access L E) bp base (N+1):=by
 intro w ts T v x hp hwf hN hbs hx_w;have hbb:=hp.hbp;have h15:=hp.h15;have hlen:=hp.len;have HL:=Hi hX;have HE:=Hi hE;have HEX:=Hi hext;clear hX hE hext;obtain⟨u,q,rfl⟩:∃u q,ts=u::q:=by cases ts with | nil=>exact absurd rfl hp.ne | cons u q=>exact⟨u,q,rfl⟩
 go_enter Tryz.func258,Tryz.ntmps258
 go_upto_region 1 with(fail)
 obtain⟨w1,hw⟩:∃w1,((w.alloc (.cells #[.iface T v] 299)).alloc (.cells #[.nilIface] 299))=w1:=⟨_,rfl⟩
 rw[hw];have hF:Below w.heap.size w w1:=by rw[←hw];exact(Qab w _).alloc (by simp) _
 have hA1:w1.heap[w.heap.size]? =some (.cells #[.iface T v] 299 (0,0)):=by rw[←hw];exact Qaf (Qah (by simp) _) _
 have hR1:w1.heap[w.heap.size+1]? =some (.cells #[.nilIface] 299 (0,0)):=by rw[←hw];exact Qah (by simp) _
 have hs1:w.heap.size+2≤w1.heap.size:=by rw[←hw];simp
 clear hw;have hx1:=hx_w.later hF;have hX1:Ext (·=bp) w w1:=.below hF;have hp1:=hp.below hF;clear hx_w hp;clear hF
 go_wp2_with fail
 refine(Qa7 hp1).mono ?_;rintro e w2⟨rfl,hF⟩;have hx2:=hx1.later hF;have hA2:=Bk hF hA1;have hR2:=Bk hF hR1;have hs2:=hF.size;have hX2:=hX1.trans (.below hF);have hp2:=hp1.below hF;clear hx1 hA1 hR1 hX1 hp1;clear hF
 go_upto_region 2 with(fail)
 obtain⟨w3,hw⟩:∃w3,w2.alloc (.cells #[.int .i64 u.ty,.string u.fn,.int .i64 u.off,.int .i64 u.ln,.int .i64 u.col,.string u.tx] 122)=w3:=⟨_,rfl⟩
 rw[hw];have hF:Below w2.heap.size w2 w3:=by rw[←hw];exact Qab _ _
 have hK3:w3.heap[w2.heap.size]? =some (.cells #[.int .i64 u.ty,.string u.fn,.int .i64 u.off,.int .i64 u.ln,.int .i64 u.col,.string u.tx] 122 (0,0)):=by rw[←hw];exact heap_alloc_new _ _
 have hs3:w2.heap.size+1≤w3.heap.size:=by rw[←hw];simp
 clear hw;have hx3:=hx2.later hF;have hA3:=Bk hF hA2;have hR3:=Bk hF hR2;have hX3:=hX2.trans (.below hF);have hp3:=hp2.below hF;clear hx2 hA2 hR2 hX2 hp2;clear hF;have c_hK_5:=Qaa (o:=5) hK3 rfl;cases ht:(u.tx.toList==[46])with
 | false =>
  have hnd:=ht;clear ht;cases ht:(u.tx.toList==[91])with
  | false =>
   have c_hA_0:=Qaa (o:=0) hA3 rfl;have lt_hA:=Qad hA3;have lt_hR:=Qad hR3;have c_hR_0:=Qaa (o:=0) hR3 rfl;have f_hR:=Qae hR3 0;have HR:=Hi (show access L E x (u::q)=some none by unfold Pg.access;simp[tx,hnd,ht]);have HB:=Hi hR3;clear hR3;go_wp2;refine QaM (R:=w.heap.size+1) _ (by kernel_rfl) rfl rfl rfl rfl (Qac (o:=0) HB.out _) ?_;exact accP_end HR.out (hX3.set (p:=⟨w.heap.size+1,0,none⟩) (.inr (show _≤w.heap.size+1 by omega)) _) (hp3.set (o:=0) (by omega) _)
  | true =>
   go_wp2_with fail
   refine(Qaz hp3).mono ?_;rintro e w4⟨rfl,hp4,hF⟩;have hx4:=hx3.keep hF (fun d hd=>by omega);have hA4:=hF.heap (by omega) hA3;have hR4:=hF.heap (by omega) hR3;have hK4:=hF.heap (by omega) hK3;have hs4:=hF.size;have hX4:=hX3.trans hF;clear hx3 hA3 hR3 hK3 hX3 hp3 c_hK_5;clear hF;clear hK4;have hwa:=hwf.adv;have hla:(adv (u::q)).length≤(u::q).length:=(Qam hwf).len;obtain⟨u2,q2,ha2⟩:∃u2 q2,adv (u::q)=u2::q2:=by
    cases h:adv (u::q)with
    | nil=>rw[h]at hwa;exact absurd rfl hwa.ne
    | cons a b=>exact⟨a,b,rfl⟩
   rw[ha2]at hwa hla hp4;have HA2:=Hi ha2;clear ha2;have htz:=hp4.sz
   go_wp2_with fail
   refine(Qaz hp4).mono ?_;rintro e w5⟨rfl,hp5,hF⟩;have hx5:=hx4.keep hF (fun d hd=>by omega);have hA5:=hF.heap (by omega) hA4;have hR5:=hF.heap (by omega) hR4;have hs5:=hF.size;have hX5:=hX4.trans hF;clear hx4 hA4 hR4 hX4 hp4;clear hF
   go_upto_region 43 with(fail)
   obtain⟨w6,hw⟩:∃w6,w5.alloc (.cells #[.int .i64 u2.ty,.string u2.fn,.int .i64 u2.off,.int .i64 u2.ln,.int .i64 u2.col,.string u2.tx] 122)=w6:=⟨_,rfl⟩
   rw[hw];have hF:Below w5.heap.size w5 w6:=by rw[←hw];exact Qab _ _
   have hK26:w6.heap[w5.heap.size]? =some (.cells #[.int .i64 u2.ty,.string u2.fn,.int .i64 u2.off,.int .i64 u2.ln,.int .i64 u2.col,.string u2.tx] 122 (0,0)):=by rw[←hw];exact heap_alloc_new _ _
   have hs6:w5.heap.size+1≤w6.heap.size:=by rw[←hw];simp
   clear hw;have hx6:=hx5.later hF;have hA6:=Bk hF hA5;have hR6:=Bk hF hR5;have hX6:=hX5.trans (.below hF);have hp6:=hp5.below hF;clear hx5 hA5 hR5 hX5 hp5;clear hF;obtain⟨c_hK2_0,c_hK2_1,c_hK2_2,c_hK2_3,c_hK2_4,c_hK2_5⟩:=Cl6 hK26 rfl rfl rfl rfl rfl rfl
   go_wp2_with fail
   refine(QbY u2 _).mono ?_;rintro e w7⟨rfl,hF⟩;have hx7:=hx6.later hF;have hA7:=Bk hF hA6;have hR7:=Bk hF hR6;have hK27:=Bk hF hK26;have hs7:=hF.size;have hX7:=hX6.trans (.below hF);have hp7:=hp6.below hF;clear hx6 hA6 hR6 hK26 hX6 hp6 c_hK2_0 c_hK2_1 c_hK2_2 c_hK2_3 c_hK2_4 c_hK2_5;clear hF;cases hi:(u2.ty==4)with
   | false =>
    go_wp2_with fail
    refine(Qay hp7 _ _).mono ?_;rintro e w8⟨T9,v9,rfl,hF⟩;have hx8:=hx7.later hF;have hA8:=Bk hF hA7;have hR8:=Bk hF hR7;have hK28:=Bk hF hK27;have hs8:=hF.size;have hX8:=hX7.trans (.below hF);have hp8:=hp7.below hF;clear hx7 hA7 hR7 hK27 hX7 hp7;clear hF;have c_hR_0:=Qaa (o:=0) hR8 rfl;have f_hR:=Qae hR8 0;have lt_hR:=Qad hR8;have HR:=Hi (show access L E x (u::q)=none by unfold Pg.access;simp only[tx,hnd,ht,Bool.false_eq_true,if_false,if_true,HA2.out,ty,hd,hi])
    have HB:=Hi hR8;clear hR8;go_wp2;refine QaM (R:=w.heap.size+1) _ (by kernel_rfl) rfl rfl rfl rfl (Qac (o:=0) HB.out _) ?_;exact QaW HR.out (hX8.set (p:=⟨w.heap.size+1,0,none⟩) (.inr (show _≤w.heap.size+1 by omega)) _)
   | true =>
    obtain⟨c_hK2_0,c_hK2_1,c_hK2_2,c_hK2_3,c_hK2_4,c_hK2_5⟩:=Cl6 hK27 rfl rfl rfl rfl rfl rfl
    go_wp2_with fail
    refine(hL.str u2 _ hp7.g (by omega) htz).mono ?_;rintro e w8⟨hF,hr⟩;have hx8:=hx7.later hF;have hA8:=Bk hF hA7;have hR8:=Bk hF hR7;have hK28:=Bk hF hK27;have hs8:=hF.size;have hX8:=hX7.trans (.below hF);have hp8:=hp7.below hF;clear hx7 hA7 hR7 hK27 hX7 hp7 c_hK2_0 c_hK2_1 c_hK2_2 c_hK2_3 c_hK2_4 c_hK2_5;clear hF;cases hm:L.str u2.tx with
    | none =>
     rw[hm]at hr;obtain⟨s9,T9,v9,rfl⟩:=hr;have c_hR_0:=Qaa (o:=0) hR8 rfl;have f_hR:=Qae hR8 0;have lt_hR:=Qad hR8;have HR:=Hi (show access L E x (u::q)=none by unfold Pg.access;simp only[tx,hnd,ht,Bool.false_eq_true,if_false,if_true,HA2.out,ty,hd,hi,hm]);have HB:=Hi hR8;clear hR8;go_wp2;refine QaM (R:=w.heap.size+1) _ (by kernel_rfl) rfl rfl rfl rfl (Qac (o:=0) HB.out _) ?_;exact QaW HR.out (hX8.set (p:=⟨w.heap.size+1,0,none⟩) (.inr (show _≤w.heap.size+1 by omega)) _)
    | some s =>
     rw[hm]at hr;obtain⟨rfl,hsz⟩:=hr;have HM:=Hi hm;clear hm;have hwb:=hwa.adv;obtain⟨u3,q3,ha3⟩:∃a b,adv (u2::q2)=a::b:=by
      cases h:adv (u2::q2)with
      | nil=>rw[h]at hwb;exact absurd rfl hwb.ne
      | cons a b=>exact⟨a,b,rfl⟩
     rw[ha3]at hwb hp8;have HA3:=Hi ha3;clear ha3;cases hj:(u3.tx.toList==[93])with
     | false =>
      go_wp2_with fail
      refine(Qa9 hp8 hj).mono ?_;rintro e w9⟨T9,v9,rfl,hp_w9,hF⟩;have hx9:=hx8.keep hF (fun d hd=>by omega);have hA9:=hF.heap (by omega) hA8;have hR9:=hF.heap (by omega) hR8;have hK29:=hF.heap (by omega) hK28;have hs9:=hF.size;have hX9:=hX8.trans hF;clear hx8 hA8 hR8 hK28 hX8 hp8;clear hF;have c_hR_0:=Qaa (o:=0) hR9 rfl;have f_hR:=Qae hR9 0;have lt_hR:=Qad hR9;have HR:=Hi (show access L E x (u::q)=none by unfold Pg.access;simp only[tx,hnd,ht,Bool.false_eq_true,if_false,if_true,HA2.out,ty,hd,hi,HM.out,HA3.out,exact,hj])
      have HB:=Hi hR9;clear hR9;go_wp2;refine QaM (R:=w.heap.size+1) _ (by kernel_rfl) rfl rfl rfl rfl (Qac (o:=0) HB.out _) ?_;exact QaW HR.out (hX9.set (p:=⟨w.heap.size+1,0,none⟩) (.inr (show _≤w.heap.size+1 by omega)) _)
     | true =>
      go_wp2_with fail
      refine(Qa0 hp8 hj).mono ?_;rintro e w9⟨rfl,hp_w9,hF⟩;have hx9:=hx8.keep hF (fun d hd=>by omega);have hA9:=hF.heap (by omega) hA8;have hR9:=hF.heap (by omega) hR8;have hK29:=hF.heap (by omega) hK28;have hs9:=hF.size;have hX9:=hX8.trans hF;clear hx8 hA8 hR8 hK28 hX8 hp8;clear hF;have c_hA_0:=Qaa (o:=0) hA9 rfl
      go_wp2_with fail
      refine(Qft _ _ _ _).mono ?_;rintro e w10⟨rfl,hF⟩;have hx10:=hx9.later hF;have hA10:=Bk hF hA9;have hR10:=Bk hF hR9;have hK210:=Bk hF hK29;have hs10:=hF.size;have hX10:=hX9.trans (.below hF);have hp10:=hp_w9.below hF;clear hx9 hA9 hR9 hK29 hX9 hp_w9 c_hA_0;clear hF;have c_hR_0:=Qaa (o:=0) hR10 rfl;have f_hR:=Qae hR10 0;have lt_hR:=Qad hR10;have HR:=Hi (show access L E x (u::q)=some (some (.sop 194 x s,adv (u3::q3)))by unfold Pg.access;simp only[tx,hnd,ht,Bool.false_eq_true,if_false,if_true,HA2.out,ty,hd,hi,HM.out,HA3.out,exact,hj])
      have HB:=Hi hR10;clear hR10;go_wp2;refine QaM (R:=w.heap.size+1) _ (by kernel_rfl) rfl rfl rfl rfl (Qac (o:=0) HB.out _) ?_;exact Qbl HR.out (hX10.set (p:=⟨w.heap.size+1,0,none⟩) (.inr (show _≤w.heap.size+1 by omega)) _) (hp10.set (o:=0) (by omega) _) (NodeIs.store (o:=0) (.sop 194 _ _ _ hx10) HB.out (by decide) _)
 | true =>
  go_wp2_with fail
  refine(Qaz hp3).mono ?_;rintro e w4⟨rfl,hp4,hF⟩;have hx4:=hx3.keep hF (fun d hd=>by omega);have hA4:=hF.heap (by omega) hA3;have hR4:=hF.heap (by omega) hR3;have hK4:=hF.heap (by omega) hK3;have hs4:=hF.size;have hX4:=hX3.trans hF;clear hx3 hA3 hR3 hK3 hX3 hp3 c_hK_5;clear hF;clear hK4;have hwa:=hwf.adv;have hla:(adv (u::q)).length<(u::q).length:=Qax hwf (s:=[46]) ht (by decide);obtain⟨u2,q2,ha2⟩:∃u2 q2,adv (u::q)=u2::q2:=by
   cases h:adv (u::q)with
   | nil=>rw[h]at hwa;exact absurd rfl hwa.ne
   | cons a b=>exact⟨a,b,rfl⟩
  rw[ha2]at hwa hla hp4;have HA2:=Hi ha2;clear ha2
  go_wp2_with fail
  refine(Qaz hp4).mono ?_;rintro e w5⟨rfl,hp5,hF⟩;have hx5:=hx4.keep hF (fun d hd=>by omega);have hA5:=hF.heap (by omega) hA4;have hR5:=hF.heap (by omega) hR4;have hs5:=hF.size;have hX5:=hX4.trans hF;clear hx4 hA4 hR4 hX4 hp4;clear hF
  go_upto_region 7 with(fail)
  obtain⟨w6,hw⟩:∃w6,w5.alloc (.cells #[.int .i64 u2.ty,.string u2.fn,.int .i64 u2.off,.int .i64 u2.ln,.int .i64 u2.col,.string u2.tx] 122)=w6:=⟨_,rfl⟩
  rw[hw];have hF:Below w5.heap.size w5 w6:=by rw[←hw];exact Qab _ _
  have hK26:w6.heap[w5.heap.size]? =some (.cells #[.int .i64 u2.ty,.string u2.fn,.int .i64 u2.off,.int .i64 u2.ln,.int .i64 u2.col,.string u2.tx] 122 (0,0)):=by rw[←hw];exact heap_alloc_new _ _
  have hs6:w5.heap.size+1≤w6.heap.size:=by rw[←hw];simp
  clear hw;have hx6:=hx5.later hF;have hA6:=Bk hF hA5;have hR6:=Bk hF hR5;have hX6:=hX5.trans (.below hF);have hp6:=hp5.below hF;clear hx5 hA5 hR5 hX5 hp5;clear hF;obtain⟨c_hK2_0,c_hK2_1,c_hK2_2,c_hK2_3,c_hK2_4,c_hK2_5⟩:=Cl6 hK26 rfl rfl rfl rfl rfl rfl
  go_wp2_with fail
  refine(Qbd u2 _).mono ?_;rintro e w7⟨rfl,hF⟩;have hx7:=hx6.later hF;have hA7:=Bk hF hA6;have hR7:=Bk hF hR6;have hK27:=Bk hF hK26;have hs7:=hF.size;have hX7:=hX6.trans (.below hF);have hp7:=hp6.below hF;clear hx6 hA6 hR6 hK26 hX6 hp6 c_hK2_0 c_hK2_1 c_hK2_2 c_hK2_3 c_hK2_4 c_hK2_5;clear hF;cases hi:(u2.ty==1)with
  | false =>
   go_wp2_with fail
   refine(Qay hp7 _ _).mono ?_;rintro e w8⟨T9,v9,rfl,hF⟩;have hx8:=hx7.later hF;have hA8:=Bk hF hA7;have hR8:=Bk hF hR7;have hK28:=Bk hF hK27;have hs8:=hF.size;have hX8:=hX7.trans (.below hF);have hp8:=hp7.below hF;clear hx7 hA7 hR7 hK27 hX7 hp7;clear hF;have c_hR_0:=Qaa (o:=0) hR8 rfl;have f_hR:=Qae hR8 0;have lt_hR:=Qad hR8;have HR:=Hi (show access L E x (u::q)=none by unfold Pg.access;simp only[tx,ht,Bool.false_eq_true,if_false,if_true,HA2.out,ty,hd,hi])
   have HB:=Hi hR8;clear hR8;go_wp2;refine QaM (R:=w.heap.size+1) _ (by kernel_rfl) rfl rfl rfl rfl (Qac (o:=0) HB.out _) ?_;exact QaW HR.out (hX8.set (p:=⟨w.heap.size+1,0,none⟩) (.inr (show _≤w.heap.size+1 by omega)) _)
  | true =>
   have hwb:=hwa.adv;have hlb:(adv (u2::q2)).length≤(u2::q2).length:=(Qam hwa).len;obtain⟨u3,q3,ha3⟩:∃a b,adv (u2::q2)=a::b:=by
    cases h:adv (u2::q2)with
    | nil=>rw[h]at hwb;exact absurd rfl hwb.ne
    | cons a b=>exact⟨a,b,rfl⟩
   rw[ha3]at hwb hlb hp7;have HA3:=Hi ha3;clear ha3
   go_wp2_with fail
   refine(Qa7 hp7).mono ?_;rintro e w8⟨rfl,hF⟩;have hx8:=hx7.later hF;have hA8:=Bk hF hA7;have hR8:=Bk hF hR7;have hK28:=Bk hF hK27;have hs8:=hF.size;have hX8:=hX7.trans (.below hF);have hp8:=hp7.below hF;clear hx7 hA7 hR7 hK27 hX7 hp7;clear hF;have c_hK2_5:=Qaa (o:=5) hK28 rfl;cases hj:(u3.tx.toList==[40])with
   | false =>
    have c_hA_0:=Qaa (o:=0) hA8 rfl
    go_wp2_with fail
    refine(Qft _ _ _ _).mono ?_;rintro e w9⟨rfl,hF⟩;have hx9:=hx8.later hF;have hA9:=Bk hF hA8;have hR9:=Bk hF hR8;have hK29:=Bk hF hK28;have hs9:=hF.size;have hX9:=hX8.trans (.below hF);have hp_w9:=hp8.below hF;clear hx8 hA8 hR8 hK28 hX8 hp8 c_hK2_5 c_hA_0;clear hF;have c_hR_0:=Qaa (o:=0) hR9 rfl;have f_hR:=Qae hR9 0;have lt_hR:=Qad hR9;have HR:=Hi (show access L E x (u::q)=some (some (.sop 194 x u2.tx,u3::q3))by unfold Pg.access;simp only[tx,ht,Bool.false_eq_true,if_false,if_true,HA2.out,ty,hd,hi,HA3.out,hj])
    have HB:=Hi hR9;clear hR9;go_wp2;refine QaM (R:=w.heap.size+1) _ (by kernel_rfl) rfl rfl rfl rfl (Qac (o:=0) HB.out _) ?_;exact Qbl HR.out (hX9.set (p:=⟨w.heap.size+1,0,none⟩) (.inr (show _≤w.heap.size+1 by omega)) _) (hp_w9.set (o:=0) (by omega) _) (NodeIs.store (o:=0) (.sop 194 _ _ _ hx9) HB.out (by decide) _)
   | true =>
    go_wp2_with fail
    refine(Qaz hp8).mono ?_;rintro e w9⟨rfl,hp_w9,hF⟩;have hx9:=hx8.keep hF (fun d hd=>by omega);have hA9:=hF.heap (by omega) hA8;have hR9:=hF.heap (by omega) hR8;have hK29:=hF.heap (by omega) hK28;have hs9:=hF.size;have hX9:=hX8.trans hF;clear hx8 hA8 hR8 hK28 hX8 hp8 c_hK2_5;clear hF;clear hK29;have hwc:=hwb.adv;have hlc:(adv (u3::q3)).length≤(u3::q3).length:=(Qam hwb).len
    go_wp2_with fail
    refine(HL.out _ _ hp_w9 hwc (by omega) (by omega)).mono ?_;rintro e w10⟨hF,hr⟩;have hx10:=hx9.keep hF (fun d hd=>by omega);have hA10:=hF.heap (by omega) hA9;have hR10:=hF.heap (by omega) hR9;have hs10:=hF.size;have hX10:=hX9.trans hF;clear hx9 hA9 hR9 hX9;clear hF;cases hm:Qbr E [41] (adv (u3::q3))with
    | none =>
     rw[hm]at hr;obtain⟨s9,T9,v9,rfl⟩:=hr;have c_hR_0:=Qaa (o:=0) hR10 rfl;have f_hR:=Qae hR10 0;have lt_hR:=Qad hR10;have HR:=Hi (show access L E x (u::q)=none by unfold Pg.access;simp only[tx,ht,Bool.false_eq_true,if_false,if_true,HA2.out,ty,hd,hi,HA3.out,hj,hm]);have HB:=Hi hR10;clear hR10;go_wp2;refine QaM (R:=w.heap.size+1) _ (by kernel_rfl) rfl rfl rfl rfl (Qac (o:=0) HB.out _) ?_;exact QaW HR.out (hX10.set (p:=⟨w.heap.size+1,0,none⟩) (.inr (show _≤w.heap.size+1 by omega)) _)
    | some p2 =>
     obtain⟨l,us⟩:=p2;rw[hm]at hr;obtain⟨s9,vals,rfl,hp9,hO10,hm10,hll⟩:=hr;have hwd:=(Qdf HE.out _ _ _ _ hwc hm).wf hwc;have HM:=Hi hm;clear hm;obtain⟨u4,q4,rfl⟩:∃u q,us=u::q:=by cases us with | nil=>exact absurd rfl hp9.ne | cons u q=>exact⟨u,q,rfl⟩
     have hacc:access L E x (u::q)=(match method L u2.tx x l with
      | none=>none
      | some z=>some (some (z,adv (u4::q4)))):=by
      unfold Pg.access;simp only[tx,ht,Bool.false_eq_true,if_false,if_true,HA2.out,ty,hd,hi,HA3.out,hj,HM.out];cases method L u2.tx x l<;>rfl
     have HACC:=Hi hacc;clear hacc
     go_wp2_with fail
     refine(Qaz hp9).mono ?_;rintro e w11⟨rfl,hp11,hF⟩;have hx11:=hx10.keep hF (fun d hd=>by omega);have hm11:=hm10.keep hF (fun d hd=>by omega);have hA11:=hF.heap (by omega) hA10;have hR11:=hF.heap (by omega) hR10;have hO11:=Qaj hO10 hF (fun d hd=>by omega);have hs11:=hF.size;have hX11:=hX10.trans hF;clear hx10 hm10 hA10 hR10 hO10 hX10 hp9;clear hF
     go_upto_region 17 with(fail)
     obtain⟨w12,hw⟩:∃w12,w11.alloc (.cells #[.nilIface] 299)=w12:=⟨_,rfl⟩
     rw[hw];have hF:Below w11.heap.size w11 w12:=by rw[←hw];exact Qab _ _
     have hN12:w12.heap[w11.heap.size]? =some (.cells #[.nilIface] 299 (0,0)):=by rw[←hw];exact heap_alloc_new _ _
     have hs12:w11.heap.size+1≤w12.heap.size:=by rw[←hw];simp
     clear hw;have hx12:=hx11.later hF;have hm12:=hm11.later hF;have hA12:=Bk hF hA11;have hR12:=Bk hF hR11;have hO12:=Qaj (S:=fun _=>False) hO11 (.below hF) (fun _ h=>h.elim);have hX12:=hX11.trans (.below hF);have hp12:=hp11.below hF;clear hx11 hm11 hA11 hR11 hO11 hX11 hp11;clear hF;cases ht:(u2.tx.toList==[99,111,110,116,97,105,110,115])with
     | true =>
      have HMT:=Hi (show method L u2.tx x l=one 278 x l by unfold Pg.method;simp only[ht,Bool.false_eq_true,if_false,if_true]);have c_hA_0:=Qaa (o:=0) hA12 rfl
      go_wp2_with fail
      refine(QgC 282 278 enter282 n282_c u2.tx hp12 (by omega) hx12 hO12 hm12 hll).mono ?_;rintro e w13⟨hF,hr⟩;clear hm12 hO12;have hx13:=hx12.later hF;have hA13:=Bk hF hA12;have hR13:=Bk hF hR12;have hN13:=Bk hF hN12;have hs13:=hF.size;have hX13:=hX12.trans (.below hF);have hp13:=hp12.below hF;clear hx12 hA12 hR12 hN12 hX12 hp12 c_hA_0;clear hF;cases hm:one 278 x l with
      | none =>
       rw[hm]at hr;obtain⟨T9,v9,rfl⟩:=hr;have c_hN_0:=Qaa (o:=0) hN13 rfl;have f_hN:=Qae hN13 0;have lt_hN:=Qad hN13;have lt_hR:=Qad hR13;have c_hR_0:=Qaa (o:=0) hR13 rfl;have f_hR:=Qae hR13 0;have HR:=Hi (show access L E x (u::q)=none by rw[HACC.out,HMT.out,hm]);clear hm;have HB:=Hi hR13;clear hR13 hN13;go_wp2;refine QaM (R:=w.heap.size+1) _ (by kernel_rfl) rfl rfl rfl rfl (Qac (o:=0) (Qag HB.out (by omega) _) _) ?_
       exact QaW HR.out ((hX13.set (p:=⟨w11.heap.size,0,none⟩) (.inr (show _≤w11.heap.size by omega)) _).set (p:=⟨w.heap.size+1,0,none⟩) (.inr (show _≤w.heap.size+1 by omega)) _)
      | some z =>
       rw[hm]at hr;obtain⟨T9,v9,rfl,hz13⟩:=hr;have HR:=Hi (show access L E x (u::q)=some (some (z,adv (u4::q4)))by rw[HACC.out,HMT.out,hm]);clear hm;have c_hN_0:=Qaa (o:=0) hN13 rfl;have f_hN:=Qae hN13 0;have lt_hN:=Qad hN13;have lt_hR:=Qad hR13
       go_upto_region 36 with(fail)
       obtain⟨w14,hw⟩:∃w14,w13.setCell ⟨w11.heap.size,0,none⟩ (.iface T9 v9)=w14:=⟨_,rfl⟩
       rw[hw];have hz14:NodeIs w14 base _ _:=hw▸hz13.store (o:=0) hN13 (by decide) (.iface T9 v9);have hA14:w14.heap[w.heap.size]? =some (.cells #[.iface T v] 299 (0,0)):=hw▸Qag (o:=0) hA13 (by omega) (.iface T9 v9);have hR14:w14.heap[w.heap.size+1]? =some (.cells #[.nilIface] 299 (0,0)):=hw▸Qag (o:=0) hR13 (by omega) (.iface T9 v9);have hN14:w14.heap[w11.heap.size]? =some (.cells #[.iface T9 v9] 299 (0,0)):=hw▸Qac (o:=0) hN13 (.iface T9 v9)
       have hX14:Ext (·=bp) w w14:=hw▸hX13.set (p:=⟨w11.heap.size,0,none⟩) (.inr (show w.heap.size≤w11.heap.size by omega)) (.iface T9 v9);have hs14:w13.heap.size≤w14.heap.size:=by rw[←hw];simp
       have hp14:PS w14 bp base _:=hw▸hp13.set (o:=0) (show base≤w11.heap.size by omega) (.iface T9 v9);clear hz13 hA13 hR13 hN13 hX13 hp13 c_hN_0 f_hN lt_hN lt_hR hw;have c_hN_0:=Qaa (o:=0) hN14 rfl;have c_hR_0:=Qaa (o:=0) hR14 rfl;have f_hR:=Qae hR14 0;have lt_hR:=Qad hR14;have HR:=Hi (show access L E x (u::q)=some (some (z,adv (u4::q4)))from HR.out);have HB:=Hi hR14;clear hR14;go_wp2;refine QaM (R:=w.heap.size+1) _ (by kernel_rfl) rfl rfl rfl rfl (Qac (o:=0) HB.out _) ?_
       exact Qbl HR.out (hX14.set (p:=⟨w.heap.size+1,0,none⟩) (.inr (show _≤w.heap.size+1 by omega)) _) (hp14.set (o:=0) (by omega) _) (NodeIs.store (o:=0) (hz14) HB.out (by decide) _)
     | false =>
      have ht_contains:=ht;clear ht;cases ht:(u2.tx.toList==[99,111,110,116,97,105,110,115,65,108,108])with
      | true =>
       have HMT:=Hi (show method L u2.tx x l=one 279 x l by unfold Pg.method;simp only[ht_contains,ht,Bool.false_eq_true,if_false,if_true]);have c_hA_0:=Qaa (o:=0) hA12 rfl
       go_wp2_with fail
       refine(QgC 283 279 enter283 n283_c u2.tx hp12 (by omega) hx12 hO12 hm12 hll).mono ?_;rintro e w13⟨hF,hr⟩;clear hm12 hO12;have hx13:=hx12.later hF;have hA13:=Bk hF hA12;have hR13:=Bk hF hR12;have hN13:=Bk hF hN12;have hs13:=hF.size;have hX13:=hX12.trans (.below hF);have hp13:=hp12.below hF;clear hx12 hA12 hR12 hN12 hX12 hp12 c_hA_0;clear hF;cases hm:one 279 x l with
       | none =>
        rw[hm]at hr;obtain⟨T9,v9,rfl⟩:=hr;have c_hN_0:=Qaa (o:=0) hN13 rfl;have f_hN:=Qae hN13 0;have lt_hN:=Qad hN13;have lt_hR:=Qad hR13;have c_hR_0:=Qaa (o:=0) hR13 rfl;have f_hR:=Qae hR13 0;have HR:=Hi (show access L E x (u::q)=none by rw[HACC.out,HMT.out,hm]);clear hm;have HB:=Hi hR13;clear hR13 hN13;go_wp2;refine QaM (R:=w.heap.size+1) _ (by kernel_rfl) rfl rfl rfl rfl (Qac (o:=0) (Qag HB.out (by omega) _) _) ?_
        exact QaW HR.out ((hX13.set (p:=⟨w11.heap.size,0,none⟩) (.inr (show _≤w11.heap.size by omega)) _).set (p:=⟨w.heap.size+1,0,none⟩) (.inr (show _≤w.heap.size+1 by omega)) _)
       | some z =>
        rw[hm]at hr;obtain⟨T9,v9,rfl,hz13⟩:=hr;have HR:=Hi (show access L E x (u::q)=some (some (z,adv (u4::q4)))by rw[HACC.out,HMT.out,hm]);clear hm;have c_hN_0:=Qaa (o:=0) hN13 rfl;have f_hN:=Qae hN13 0;have lt_hN:=Qad hN13;have lt_hR:=Qad hR13
        go_upto_region 36 with(fail)
        obtain⟨w14,hw⟩:∃w14,w13.setCell ⟨w11.heap.size,0,none⟩ (.iface T9 v9)=w14:=⟨_,rfl⟩
        rw[hw];have hz14:NodeIs w14 base _ _:=hw▸hz13.store (o:=0) hN13 (by decide) (.iface T9 v9);have hA14:w14.heap[w.heap.size]? =some (.cells #[.iface T v] 299 (0,0)):=hw▸Qag (o:=0) hA13 (by omega) (.iface T9 v9);have hR14:w14.heap[w.heap.size+1]? =some (.cells #[.nilIface] 299 (0,0)):=hw▸Qag (o:=0) hR13 (by omega) (.iface T9 v9);have hN14:w14.heap[w11.heap.size]? =some (.cells #[.iface T9 v9] 299 (0,0)):=hw▸Qac (o:=0) hN13 (.iface T9 v9)
        have hX14:Ext (·=bp) w w14:=hw▸hX13.set (p:=⟨w11.heap.size,0,none⟩) (.inr (show w.heap.size≤w11.heap.size by omega)) (.iface T9 v9);have hs14:w13.heap.size≤w14.heap.size:=by rw[←hw];simp
        have hp14:PS w14 bp base _:=hw▸hp13.set (o:=0) (show base≤w11.heap.size by omega) (.iface T9 v9);clear hz13 hA13 hR13 hN13 hX13 hp13 c_hN_0 f_hN lt_hN lt_hR hw;have c_hN_0:=Qaa (o:=0) hN14 rfl;have c_hR_0:=Qaa (o:=0) hR14 rfl;have f_hR:=Qae hR14 0;have lt_hR:=Qad hR14;have HR:=Hi (show access L E x (u::q)=some (some (z,adv (u4::q4)))from HR.out);have HB:=Hi hR14;clear hR14;go_wp2;refine QaM (R:=w.heap.size+1) _ (by kernel_rfl) rfl rfl rfl rfl (Qac (o:=0) HB.out _) ?_
        exact Qbl HR.out (hX14.set (p:=⟨w.heap.size+1,0,none⟩) (.inr (show _≤w.heap.size+1 by omega)) _) (hp14.set (o:=0) (by omega) _) (NodeIs.store (o:=0) (hz14) HB.out (by decide) _)
      | false =>
       have ht_containsAll:=ht;clear ht;cases ht:(u2.tx.toList==[99,111,110,116,97,105,110,115,65,110,121])with
       | true =>
        have HMT:=Hi (show method L u2.tx x l=one 280 x l by unfold Pg.method;simp only[ht_contains,ht_containsAll,ht,Bool.false_eq_true,if_false,if_true]);have c_hA_0:=Qaa (o:=0) hA12 rfl
        go_wp2_with fail
        refine(QgC 284 280 enter284 n284_c u2.tx hp12 (by omega) hx12 hO12 hm12 hll).mono ?_;rintro e w13⟨hF,hr⟩;clear hm12 hO12;have hx13:=hx12.later hF;have hA13:=Bk hF hA12;have hR13:=Bk hF hR12;have hN13:=Bk hF hN12;have hs13:=hF.size;have hX13:=hX12.trans (.below hF);have hp13:=hp12.below hF;clear hx12 hA12 hR12 hN12 hX12 hp12 c_hA_0;clear hF;cases hm:one 280 x l with
        | none =>
         rw[hm]at hr;obtain⟨T9,v9,rfl⟩:=hr;have c_hN_0:=Qaa (o:=0) hN13 rfl;have f_hN:=Qae hN13 0;have lt_hN:=Qad hN13;have lt_hR:=Qad hR13;have c_hR_0:=Qaa (o:=0) hR13 rfl;have f_hR:=Qae hR13 0;have HR:=Hi (show access L E x (u::q)=none by rw[HACC.out,HMT.out,hm]);clear hm;have HB:=Hi hR13;clear hR13 hN13;go_wp2;refine QaM (R:=w.heap.size+1) _ (by kernel_rfl) rfl rfl rfl rfl (Qac (o:=0) (Qag HB.out (by omega) _) _) ?_
         exact QaW HR.out ((hX13.set (p:=⟨w11.heap.size,0,none⟩) (.inr (show _≤w11.heap.size by omega)) _).set (p:=⟨w.heap.size+1,0,none⟩) (.inr (show _≤w.heap.size+1 by omega)) _)
        | some z =>
         rw[hm]at hr;obtain⟨T9,v9,rfl,hz13⟩:=hr;have HR:=Hi (show access L E x (u::q)=some (some (z,adv (u4::q4)))by rw[HACC.out,HMT.out,hm]);clear hm;have c_hN_0:=Qaa (o:=0) hN13 rfl;have f_hN:=Qae hN13 0;have lt_hN:=Qad hN13;have lt_hR:=Qad hR13
         go_upto_region 36 with(fail)
         obtain⟨w14,hw⟩:∃w14,w13.setCell ⟨w11.heap.size,0,none⟩ (.iface T9 v9)=w14:=⟨_,rfl⟩
         rw[hw];have hz14:NodeIs w14 base _ _:=hw▸hz13.store (o:=0) hN13 (by decide) (.iface T9 v9);have hA14:w14.heap[w.heap.size]? =some (.cells #[.iface T v] 299 (0,0)):=hw▸Qag (o:=0) hA13 (by omega) (.iface T9 v9);have hR14:w14.heap[w.heap.size+1]? =some (.cells #[.nilIface] 299 (0,0)):=hw▸Qag (o:=0) hR13 (by omega) (.iface T9 v9);have hN14:w14.heap[w11.heap.size]? =some (.cells #[.iface T9 v9] 299 (0,0)):=hw▸Qac (o:=0) hN13 (.iface T9 v9)
         have hX14:Ext (·=bp) w w14:=hw▸hX13.set (p:=⟨w11.heap.size,0,none⟩) (.inr (show w.heap.size≤w11.heap.size by omega)) (.iface T9 v9);have hs14:w13.heap.size≤w14.heap.size:=by rw[←hw];simp
         have hp14:PS w14 bp base _:=hw▸hp13.set (o:=0) (show base≤w11.heap.size by omega) (.iface T9 v9);clear hz13 hA13 hR13 hN13 hX13 hp13 c_hN_0 f_hN lt_hN lt_hR hw;have c_hN_0:=Qaa (o:=0) hN14 rfl;have c_hR_0:=Qaa (o:=0) hR14 rfl;have f_hR:=Qae hR14 0;have lt_hR:=Qad hR14;have HR:=Hi (show access L E x (u::q)=some (some (z,adv (u4::q4)))from HR.out);have HB:=Hi hR14;clear hR14;go_wp2;refine QaM (R:=w.heap.size+1) _ (by kernel_rfl) rfl rfl rfl rfl (Qac (o:=0) HB.out _) ?_
         exact Qbl HR.out (hX14.set (p:=⟨w.heap.size+1,0,none⟩) (.inr (show _≤w.heap.size+1 by omega)) _) (hp14.set (o:=0) (by omega) _) (NodeIs.store (o:=0) (hz14) HB.out (by decide) _)
       | false =>
        have ht_containsAny:=ht;clear ht;cases ht:(u2.tx.toList==[104,97,115,84,97,103])with
        | true =>
         have HMT:=Hi (show method L u2.tx x l=one 270 x l by unfold Pg.method;simp only[ht_contains,ht_containsAll,ht_containsAny,ht,Bool.false_eq_true,if_false,if_true]);have c_hA_0:=Qaa (o:=0) hA12 rfl
         go_wp2_with fail
         refine(QgC 285 270 enter285 n285_c u2.tx hp12 (by omega) hx12 hO12 hm12 hll).mono ?_;rintro e w13⟨hF,hr⟩;clear hm12 hO12;have hx13:=hx12.later hF;have hA13:=Bk hF hA12;have hR13:=Bk hF hR12;have hN13:=Bk hF hN12;have hs13:=hF.size;have hX13:=hX12.trans (.below hF);have hp13:=hp12.below hF;clear hx12 hA12 hR12 hN12 hX12 hp12 c_hA_0;clear hF;cases hm:one 270 x l with
         | none =>
          rw[hm]at hr;obtain⟨T9,v9,rfl⟩:=hr;have c_hN_0:=Qaa (o:=0) hN13 rfl;have f_hN:=Qae hN13 0;have lt_hN:=Qad hN13;have lt_hR:=Qad hR13;have c_hR_0:=Qaa (o:=0) hR13 rfl;have f_hR:=Qae hR13 0;have HR:=Hi (show access L E x (u::q)=none by rw[HACC.out,HMT.out,hm]);clear hm;have HB:=Hi hR13;clear hR13 hN13;go_wp2;refine QaM (R:=w.heap.size+1) _ (by kernel_rfl) rfl rfl rfl rfl (Qac (o:=0) (Qag HB.out (by omega) _) _) ?_
          exact QaW HR.out ((hX13.set (p:=⟨w11.heap.size,0,none⟩) (.inr (show _≤w11.heap.size by omega)) _).set (p:=⟨w.heap.size+1,0,none⟩) (.inr (show _≤w.heap.size+1 by omega)) _)
         | some z =>
          rw[hm]at hr;obtain⟨T9,v9,rfl,hz13⟩:=hr;have HR:=Hi (show access L E x (u::q)=some (some (z,adv (u4::q4)))by rw[HACC.out,HMT.out,hm]);clear hm;have c_hN_0:=Qaa (o:=0) hN13 rfl;have f_hN:=Qae hN13 0;have lt_hN:=Qad hN13;have lt_hR:=Qad hR13
          go_upto_region 36 with(fail)
          obtain⟨w14,hw⟩:∃w14,w13.setCell ⟨w11.heap.size,0,none⟩ (.iface T9 v9)=w14:=⟨_,rfl⟩
          rw[hw];have hz14:NodeIs w14 base _ _:=hw▸hz13.store (o:=0) hN13 (by decide) (.iface T9 v9);have hA14:w14.heap[w.heap.size]? =some (.cells #[.iface T v] 299 (0,0)):=hw▸Qag (o:=0) hA13 (by omega) (.iface T9 v9);have hR14:w14.heap[w.heap.size+1]? =some (.cells #[.nilIface] 299 (0,0)):=hw▸Qag (o:=0) hR13 (by omega) (.iface T9 v9);have hN14:w14.heap[w11.heap.size]? =some (.cells #[.iface T9 v9] 299 (0,0)):=hw▸Qac (o:=0) hN13 (.iface T9 v9)
          have hX14:Ext (·=bp) w w14:=hw▸hX13.set (p:=⟨w11.heap.size,0,none⟩) (.inr (show w.heap.size≤w11.heap.size by omega)) (.iface T9 v9);have hs14:w13.heap.size≤w14.heap.size:=by rw[←hw];simp
          have hp14:PS w14 bp base _:=hw▸hp13.set (o:=0) (show base≤w11.heap.size by omega) (.iface T9 v9);clear hz13 hA13 hR13 hN13 hX13 hp13 c_hN_0 f_hN lt_hN lt_hR hw;have c_hN_0:=Qaa (o:=0) hN14 rfl;have c_hR_0:=Qaa (o:=0) hR14 rfl;have f_hR:=Qae hR14 0;have lt_hR:=Qad hR14;have HR:=Hi (show access L E x (u::q)=some (some (z,adv (u4::q4)))from HR.out);have HB:=Hi hR14;clear hR14;go_wp2;refine QaM (R:=w.heap.size+1) _ (by kernel_rfl) rfl rfl rfl rfl (Qac (o:=0) HB.out _) ?_
          exact Qbl HR.out (hX14.set (p:=⟨w.heap.size+1,0,none⟩) (.inr (show _≤w.heap.size+1 by omega)) _) (hp14.set (o:=0) (by omega) _) (NodeIs.store (o:=0) (hz14) HB.out (by decide) _)
        | false =>
         have ht_hasTag:=ht;clear ht;cases ht:(u2.tx.toList==[103,101,116,84,97,103])with
         | true =>
          have HMT:=Hi (show method L u2.tx x l=one 271 x l by unfold Pg.method;simp only[ht_contains,ht_containsAll,ht_containsAny,ht_hasTag,ht,Bool.false_eq_true,if_false,if_true]);have c_hA_0:=Qaa (o:=0) hA12 rfl
          go_wp2_with fail
          refine(QgC 286 271 enter286 n286_c u2.tx hp12 (by omega) hx12 hO12 hm12 hll).mono ?_;rintro e w13⟨hF,hr⟩;clear hm12 hO12;have hx13:=hx12.later hF;have hA13:=Bk hF hA12;have hR13:=Bk hF hR12;have hN13:=Bk hF hN12;have hs13:=hF.size;have hX13:=hX12.trans (.below hF);have hp13:=hp12.below hF;clear hx12 hA12 hR12 hN12 hX12 hp12 c_hA_0;clear hF;cases hm:one 271 x l with
          | none =>
           rw[hm]at hr;obtain⟨T9,v9,rfl⟩:=hr;have c_hN_0:=Qaa (o:=0) hN13 rfl;have f_hN:=Qae hN13 0;have lt_hN:=Qad hN13;have lt_hR:=Qad hR13;have c_hR_0:=Qaa (o:=0) hR13 rfl;have f_hR:=Qae hR13 0;have HR:=Hi (show access L E x (u::q)=none by rw[HACC.out,HMT.out,hm]);clear hm;have HB:=Hi hR13;clear hR13 hN13;go_wp2;refine QaM (R:=w.heap.size+1) _ (by kernel_rfl) rfl rfl rfl rfl (Qac (o:=0) (Qag HB.out (by omega) _) _) ?_
           exact QaW HR.out ((hX13.set (p:=⟨w11.heap.size,0,none⟩) (.inr (show _≤w11.heap.size by omega)) _).set (p:=⟨w.heap.size+1,0,none⟩) (.inr (show _≤w.heap.size+1 by omega)) _)
          | some z =>
           rw[hm]at hr;obtain⟨T9,v9,rfl,hz13⟩:=hr;have HR:=Hi (show access L E x (u::q)=some (some (z,adv (u4::q4)))by rw[HACC.out,HMT.out,hm]);clear hm;have c_hN_0:=Qaa (o:=0) hN13 rfl;have f_hN:=Qae hN13 0;have lt_hN:=Qad hN13;have lt_hR:=Qad hR13
           go_upto_region 36 with(fail)
           obtain⟨w14,hw⟩:∃w14,w13.setCell ⟨w11.heap.size,0,none⟩ (.iface T9 v9)=w14:=⟨_,rfl⟩
           rw[hw];have hz14:NodeIs w14 base _ _:=hw▸hz13.store (o:=0) hN13 (by decide) (.iface T9 v9);have hA14:w14.heap[w.heap.size]? =some (.cells #[.iface T v] 299 (0,0)):=hw▸Qag (o:=0) hA13 (by omega) (.iface T9 v9);have hR14:w14.heap[w.heap.size+1]? =some (.cells #[.nilIface] 299 (0,0)):=hw▸Qag (o:=0) hR13 (by omega) (.iface T9 v9);have hN14:w14.heap[w11.heap.size]? =some (.cells #[.iface T9 v9] 299 (0,0)):=hw▸Qac (o:=0) hN13 (.iface T9 v9)
           have hX14:Ext (·=bp) w w14:=hw▸hX13.set (p:=⟨w11.heap.size,0,none⟩) (.inr (show w.heap.size≤w11.heap.size by omega)) (.iface T9 v9);have hs14:w13.heap.size≤w14.heap.size:=by rw[←hw];simp
           have hp14:PS w14 bp base _:=hw▸hp13.set (o:=0) (show base≤w11.heap.size by omega) (.iface T9 v9);clear hz13 hA13 hR13 hN13 hX13 hp13 c_hN_0 f_hN lt_hN lt_hR hw;have c_hN_0:=Qaa (o:=0) hN14 rfl;have c_hR_0:=Qaa (o:=0) hR14 rfl;have f_hR:=Qae hR14 0;have lt_hR:=Qad hR14;have HR:=Hi (show access L E x (u::q)=some (some (z,adv (u4::q4)))from HR.out);have HB:=Hi hR14;clear hR14;go_wp2;refine QaM (R:=w.heap.size+1) _ (by kernel_rfl) rfl rfl rfl rfl (Qac (o:=0) HB.out _) ?_
           exact Qbl HR.out (hX14.set (p:=⟨w.heap.size+1,0,none⟩) (.inr (show _≤w.heap.size+1 by omega)) _) (hp14.set (o:=0) (by omega) _) (NodeIs.store (o:=0) (hz14) HB.out (by decide) _)
         | false =>
          have ht_getTag:=ht;clear ht;cases ht:(u2.tx.toList==[105,115,69,109,112,116,121])with
          | true =>
           have HMT:=Hi (show method L u2.tx x l=zero x l by unfold Pg.method;simp only[ht_contains,ht_containsAll,ht_containsAny,ht_hasTag,ht_getTag,ht,Bool.false_eq_true,if_false,if_true];cases l<;>rfl);have c_hA_0:=Qaa (o:=0) hA12 rfl
           go_wp2_with fail
           refine(zero_c u2.tx hp12 (by omega) hx12 hO12 hm12 hll).mono ?_;rintro e w13⟨hF,hr⟩;clear hm12 hO12;have hx13:=hx12.later hF;have hA13:=Bk hF hA12;have hR13:=Bk hF hR12;have hN13:=Bk hF hN12;have hs13:=hF.size;have hX13:=hX12.trans (.below hF);have hp13:=hp12.below hF;clear hx12 hA12 hR12 hN12 hX12 hp12 c_hA_0;clear hF;cases hm:zero x l with
           | none =>
            rw[hm]at hr;obtain⟨T9,v9,rfl⟩:=hr;have c_hN_0:=Qaa (o:=0) hN13 rfl;have f_hN:=Qae hN13 0;have lt_hN:=Qad hN13;have lt_hR:=Qad hR13;have c_hR_0:=Qaa (o:=0) hR13 rfl;have f_hR:=Qae hR13 0;have HR:=Hi (show access L E x (u::q)=none by rw[HACC.out,HMT.out,hm]);clear hm;have HB:=Hi hR13;clear hR13 hN13;go_wp2;refine QaM (R:=w.heap.size+1) _ (by kernel_rfl) rfl rfl rfl rfl (Qac (o:=0) (Qag HB.out (by omega) _) _) ?_
            exact QaW HR.out ((hX13.set (p:=⟨w11.heap.size,0,none⟩) (.inr (show _≤w11.heap.size by omega)) _).set (p:=⟨w.heap.size+1,0,none⟩) (.inr (show _≤w.heap.size+1 by omega)) _)
           | some z =>
            rw[hm]at hr;obtain⟨T9,v9,rfl,hz13⟩:=hr;have HR:=Hi (show access L E x (u::q)=some (some (z,adv (u4::q4)))by rw[HACC.out,HMT.out,hm]);clear hm;have c_hN_0:=Qaa (o:=0) hN13 rfl;have f_hN:=Qae hN13 0;have lt_hN:=Qad hN13;have lt_hR:=Qad hR13
            go_upto_region 36 with(fail)
            obtain⟨w14,hw⟩:∃w14,w13.setCell ⟨w11.heap.size,0,none⟩ (.iface T9 v9)=w14:=⟨_,rfl⟩
            rw[hw];have hz14:NodeIs w14 base _ _:=hw▸hz13.store (o:=0) hN13 (by decide) (.iface T9 v9);have hA14:w14.heap[w.heap.size]? =some (.cells #[.iface T v] 299 (0,0)):=hw▸Qag (o:=0) hA13 (by omega) (.iface T9 v9);have hR14:w14.heap[w.heap.size+1]? =some (.cells #[.nilIface] 299 (0,0)):=hw▸Qag (o:=0) hR13 (by omega) (.iface T9 v9);have hN14:w14.heap[w11.heap.size]? =some (.cells #[.iface T9 v9] 299 (0,0)):=hw▸Qac (o:=0) hN13 (.iface T9 v9)
            have hX14:Ext (·=bp) w w14:=hw▸hX13.set (p:=⟨w11.heap.size,0,none⟩) (.inr (show w.heap.size≤w11.heap.size by omega)) (.iface T9 v9);have hs14:w13.heap.size≤w14.heap.size:=by rw[←hw];simp
            have hp14:PS w14 bp base _:=hw▸hp13.set (o:=0) (show base≤w11.heap.size by omega) (.iface T9 v9);clear hz13 hA13 hR13 hN13 hX13 hp13 c_hN_0 f_hN lt_hN lt_hR hw;have c_hN_0:=Qaa (o:=0) hN14 rfl;have c_hR_0:=Qaa (o:=0) hR14 rfl;have f_hR:=Qae hR14 0;have lt_hR:=Qad hR14;have HR:=Hi (show access L E x (u::q)=some (some (z,adv (u4::q4)))from HR.out);have HB:=Hi hR14;clear hR14;go_wp2;refine QaM (R:=w.heap.size+1) _ (by kernel_rfl) rfl rfl rfl rfl (Qac (o:=0) HB.out _) ?_
            exact Qbl HR.out (hX14.set (p:=⟨w.heap.size+1,0,none⟩) (.inr (show _≤w.heap.size+1 by omega)) _) (hp14.set (o:=0) (by omega) _) (NodeIs.store (o:=0) (hz14) HB.out (by decide) _)
          | false =>
           have ht_isEmpty:=ht;clear ht;have HMT:=Hi (show method L u2.tx x l=(match(extM u2.tx).map (·.2)with
            | some true=>some (.call u2.tx (x::l))
            | _=>none)by unfold Pg.method;simp only[ht_contains,ht_containsAll,ht_containsAny,ht_hasTag,ht_getTag,ht_isEmpty,Bool.false_eq_true,if_false,HEX.out];rcases extM u2.tx with _ | ⟨_,_ | _⟩<;>rfl)
           go_wp2_with fail
           refine(Qfw _).mono ?_;rintro e w13⟨rfl,hw⟩;have hF:Below w12.heap.size w12 w13:=hw▸Qab _ _;have hmap:w13.heap[w12.heap.size]? =some (.map (extE 22) 22):=hw▸heap_alloc_new _ _;clear hw;have hx13:=hx12.later hF;have hm13:=hm12.later hF;have hA13:=Bk hF hA12;have hR13:=Bk hF hR12;have hN13:=Bk hF hN12;have hO13:=Qaj (S:=fun _=>False) hO12 (.below hF) (fun _ h=>h.elim);have hs13:=hF.size;have hX13:=hX12.trans (.below hF)
           have hp13:=hp12.below hF;clear hx12 hm12 hA12 hR12 hN12 hO12 hX12 hp12;clear hF;have hlk:=Qfx hmap u2.tx;clear hmap;unfold extV at hlk;cases hem:extM u2.tx with
           | none =>
            rw[hem]at hlk;simp only at hlk;have HR0:=Hi (show access L E x (u::q)=none by rw[HACC.out,HMT.out,hem];rfl);clear hem
            go_upto_region 19 with(fail)
            obtain⟨w14,hw⟩:∃w14,w13.alloc (.cells #[.int .i64 0,.bool false] 420)=w14:=⟨_,rfl⟩
            rw[hw];have hF:Below w13.heap.size w13 w14:=by rw[←hw];exact Qab _ _
            have hB14:w14.heap[w13.heap.size]? =some (.cells #[.int .i64 0,.bool false] 420 (0,0)):=by rw[←hw];exact heap_alloc_new _ _
            have hs14:w13.heap.size+1≤w14.heap.size:=by rw[←hw];simp
            clear hw;have hx14:=hx13.later hF;have hm14:=hm13.later hF;have hA14:=Bk hF hA13;have hR14:=Bk hF hR13;have hN14:=Bk hF hN13;have hO14:=Qaj (S:=fun _=>False) hO13 (.below hF) (fun _ h=>h.elim);have hX14:=hX13.trans (.below hF);have hp14:=hp13.below hF;clear hx13 hm13 hA13 hR13 hN13 hO13 hX13 hp13;clear hF;clear hlk
            go_wp2_with fail
            refine(Qay (hp14.below (Qab _ _)) _ _).mono ?_;rintro e w15⟨T9,v9,rfl,hF0⟩;have hF:=(Qab w14 (.cells #[.iface 9 (.string u2.tx)] 20)).trans (hF0.mono (by simp));clear hF0;have hx15:=hx14.later hF;have hm15:=hm14.later hF;have hA15:=Bk hF hA14;have hR15:=Bk hF hR14;have hN15:=Bk hF hN14;have hB15:=Bk hF hB14;have hO15:=Qaj (S:=fun _=>False) hO14 (.below hF) (fun _ h=>h.elim);have hs15:=hF.size
            have hX15:=hX14.trans (.below hF);have hp15:=hp14.below hF;clear hx14 hm14 hA14 hR14 hN14 hB14 hO14 hX14 hp14;clear hF;have c_hR_0:=Qaa (o:=0) hR15 rfl;have f_hR:=Qae hR15 0;have lt_hR:=Qad hR15;have HR:=Hi (HR0.out);have HB:=Hi hR15;clear hR15;go_wp2;refine QaM (R:=w.heap.size+1) _ (by kernel_rfl) rfl rfl rfl rfl (Qac (o:=0) HB.out _) ?_;exact QaW HR.out (hX15.set (p:=⟨w.heap.size+1,0,none⟩) (.inr (show _≤w.heap.size+1 by omega)) _)
           | some pe =>
            obtain⟨ne,me⟩:=pe;rw[hem]at hlk;simp only at hlk;cases me with
            | false =>
             have HR0:=Hi (show access L E x (u::q)=none by rw[HACC.out,HMT.out,hem];rfl);clear hem
             go_upto_region 19 with(fail)
             obtain⟨w14,hw⟩:∃w14,w13.alloc (.cells #[.int .i64 ne,.bool false] 420)=w14:=⟨_,rfl⟩
             rw[hw];have hF:Below w13.heap.size w13 w14:=by rw[←hw];exact Qab _ _
             have hB14:w14.heap[w13.heap.size]? =some (.cells #[.int .i64 ne,.bool false] 420 (0,0)):=by rw[←hw];exact heap_alloc_new _ _
             have hs14:w13.heap.size+1≤w14.heap.size:=by rw[←hw];simp
             clear hw;have hx14:=hx13.later hF;have hm14:=hm13.later hF;have hA14:=Bk hF hA13;have hR14:=Bk hF hR13;have hN14:=Bk hF hN13;have hO14:=Qaj (S:=fun _=>False) hO13 (.below hF) (fun _ h=>h.elim);have hX14:=hX13.trans (.below hF);have hp14:=hp13.below hF;clear hx13 hm13 hA13 hR13 hN13 hO13 hX13 hp13;clear hF;clear hlk;have c_hB_1:=Qaa (o:=1) hB14 rfl
             go_wp2_with fail
             refine(Qay (hp14.below (Qab _ _)) _ _).mono ?_;rintro e w15⟨T9,v9,rfl,hF0⟩;have hF:=(Qab w14 (.cells #[.iface 9 (.string u2.tx)] 20)).trans (hF0.mono (by simp));clear hF0;have hx15:=hx14.later hF;have hm15:=hm14.later hF;have hA15:=Bk hF hA14;have hR15:=Bk hF hR14;have hN15:=Bk hF hN14;have hB15:=Bk hF hB14;have hO15:=Qaj (S:=fun _=>False) hO14 (.below hF) (fun _ h=>h.elim);have hs15:=hF.size
             have hX15:=hX14.trans (.below hF);have hp15:=hp14.below hF;clear hx14 hm14 hA14 hR14 hN14 hB14 hO14 hX14 hp14 c_hB_1;clear hF;have c_hR_0:=Qaa (o:=0) hR15 rfl;have f_hR:=Qae hR15 0;have lt_hR:=Qad hR15;have HR:=Hi (HR0.out);have HB:=Hi hR15;clear hR15;go_wp2;refine QaM (R:=w.heap.size+1) _ (by kernel_rfl) rfl rfl rfl rfl (Qac (o:=0) HB.out _) ?_;exact QaW HR.out (hX15.set (p:=⟨w.heap.size+1,0,none⟩) (.inr (show _≤w.heap.size+1 by omega)) _)
            | true =>
             have HR:=Hi (show access L E x (u::q)=some (some (.call u2.tx (x::l),adv (u4::q4)))by rw[HACC.out,HMT.out,hem];rfl);clear hem
             go_upto_region 19 with(fail)
             obtain⟨w14,hw⟩:∃w14,w13.alloc (.cells #[.int .i64 ne,.bool true] 420)=w14:=⟨_,rfl⟩
             rw[hw];have hF:Below w13.heap.size w13 w14:=by rw[←hw];exact Qab _ _
             have hB14:w14.heap[w13.heap.size]? =some (.cells #[.int .i64 ne,.bool true] 420 (0,0)):=by rw[←hw];exact heap_alloc_new _ _
             have hs14:w13.heap.size+1≤w14.heap.size:=by rw[←hw];simp
             clear hw;have hx14:=hx13.later hF;have hm14:=hm13.later hF;have hA14:=Bk hF hA13;have hR14:=Bk hF hR13;have hN14:=Bk hF hN13;have hO14:=Qaj (S:=fun _=>False) hO13 (.below hF) (fun _ h=>h.elim);have hX14:=hX13.trans (.below hF);have hp14:=hp13.below hF;clear hx13 hm13 hA13 hR13 hN13 hO13 hX13 hp13;clear hF;clear hlk;have c_hB_1:=Qaa (o:=1) hB14 rfl;have c_hA_0:=Qaa (o:=0) hA14 rfl
             go_wp2_with fail
             refine(n290_c (B:=w9.heap.size) u2.tx (by omega) (by omega) hx14 hO14 hm14 hll).mono ?_;rintro e w15⟨hF,T9,v9,rfl,hz15⟩;clear hm14 hO14;have hx15:=hx14.later hF;have hA15:=Bk hF hA14;have hR15:=Bk hF hR14;have hN15:=Bk hF hN14;have hB15:=Bk hF hB14;have hs15:=hF.size;have hX15:=hX14.trans (.below hF);have hp15:=hp14.below hF;clear hx14 hA14 hR14 hN14 hB14 hX14 hp14 c_hB_1 c_hA_0;clear hF
             obtain⟨z,hzz⟩:∃z,z=Ex.call u2.tx (x::l):=⟨_,rfl⟩
             rw[←hzz]at hz15 HR;clear hzz;have c_hN_0:=Qaa (o:=0) hN15 rfl;have f_hN:=Qae hN15 0;have lt_hN:=Qad hN15;have lt_hR:=Qad hR15
             go_upto_region 36 with(fail)
             obtain⟨w16,hw⟩:∃w16,w15.setCell ⟨w11.heap.size,0,none⟩ (.iface T9 v9)=w16:=⟨_,rfl⟩
             rw[hw];have hz16:NodeIs w16 base _ _:=hw▸hz15.store (o:=0) hN15 (by decide) (.iface T9 v9);have hA16:w16.heap[w.heap.size]? =some (.cells #[.iface T v] 299 (0,0)):=hw▸Qag (o:=0) hA15 (by omega) (.iface T9 v9);have hR16:w16.heap[w.heap.size+1]? =some (.cells #[.nilIface] 299 (0,0)):=hw▸Qag (o:=0) hR15 (by omega) (.iface T9 v9);have hN16:w16.heap[w11.heap.size]? =some (.cells #[.iface T9 v9] 299 (0,0)):=hw▸Qac (o:=0) hN15 (.iface T9 v9)
             have hB16:w16.heap[w13.heap.size]? =some (.cells #[.int .i64 ne,.bool true] 420 (0,0)):=hw▸Qag (o:=0) hB15 (by omega) (.iface T9 v9);have hX16:Ext (·=bp) w w16:=hw▸hX15.set (p:=⟨w11.heap.size,0,none⟩) (.inr (show w.heap.size≤w11.heap.size by omega)) (.iface T9 v9);have hs16:w15.heap.size≤w16.heap.size:=by rw[←hw];simp
             have hp16:PS w16 bp base _:=hw▸hp15.set (o:=0) (show base≤w11.heap.size by omega) (.iface T9 v9);clear hz15 hA15 hR15 hN15 hB15 hX15 hp15 c_hN_0 f_hN lt_hN lt_hR hw;have c_hN_0:=Qaa (o:=0) hN16 rfl;have c_hR_0:=Qaa (o:=0) hR16 rfl;have f_hR:=Qae hR16 0;have lt_hR:=Qad hR16;have HR:=Hi (show access L E x (u::q)=some (some (z,adv (u4::q4)))from HR.out);have HB:=Hi hR16;clear hR16;go_wp2;refine QaM (R:=w.heap.size+1) _ (by kernel_rfl) rfl rfl rfl rfl (Qac (o:=0) HB.out _) ?_
             exact Qbl HR.out (hX16.set (p:=⟨w.heap.size+1,0,none⟩) (.inr (show _≤w.heap.size+1 by omega)) _) (hp16.set (o:=0) (by omega) _) (NodeIs.store (o:=0) (hz16) HB.out (by decide) _)
end Go.Proofs.Pg
