/- FnPolicyCut, part 17. -/
import Derived.Test.YtmhjkkkhdlnngaaGreatDoorP10
import Derived.RegionTactic
import Derived.Deep.RegionWith
import Derived.Deep.RegionHeld3
set_option linter.all false
set_option maxRecDepth 100000
set_option maxHeartbeats 0
namespace Go.Proofs.Pg
open Go.RowKit Go.Proofs.Tryz
attribute [local go_sem] Oper.semAt_some
theorem QaM{W:World}{fn:Func}{R:Nat}{v b err:Value}{Q:Ending→World→Prop}(a:Act)(hf:fn.results=#[.cell 4 299,.tmp 5,.tmp 6])(ha:a.tmps.getD 4 undef=.pointer (some ⟨R,0,none⟩))(hb:a.tmps.getD 5 undef=b)(he:a.tmps.getD 6 undef=err)(had:a.defers=[])
  (r:W.heap[R]? =some (.cells #[v] 299 (0,0)))(h:Q (.returned (.tuple #[.agg #[v],b,err])) W):bodyPost prog fn Q Exit.ret a W:=by
 refine bodyPost_ret (QcO (a:=4) (u:=5) (v:=6) (t:=299) hf _ ⟨R,0,none⟩ ha _ _ (QcP _ _ _ _ (by kernel_rfl) (by kernel_rfl) (Qaa (o:=0) r rfl))) had ?_;rw[he,hb];exact h
theorem QaW{bp base:Nat}{w w':World}{lhs:Value}{ts:Toks}{r:Option (Option (Ex×Toks))}{T:TypeId}{w9:World}{v:EVal base w9 T}(h:r=none)(hX:Ext (·=bp) w w')(hk:∀d,OkB w9 d→OkB w' d:=by intro _ h;repeat (first | exact h | apply Qiq | apply Qip)):AccP bp base w lhs ts r (.returned (.tuple #[.agg #[.nilIface],.bool false,.iface T v.1])) w':=by subst h;exact⟨hX,_,v.to hk,rfl⟩
theorem accP_end{bp base:Nat}{w w':World}{lhs:Value}{ts:Toks}{r:Option (Option (Ex×Toks))}(h:r=some none)(hX:Ext (·=bp) w w')(hp:PS w' bp base ts):AccP bp base w lhs ts r (.returned (.tuple #[.agg #[lhs],.bool false,.nilIface])) w':=by subst h;exact⟨hX,rfl,hp⟩
theorem Qbl{bp base:Nat}{w w':World}{lhs:Value}{ts us:Toks}{r:Option (Option (Ex×Toks))}{T:TypeId}{v:Value}{x:Ex}(h:r=some (some (x,us)))(hX:Ext (·=bp) w w')(hp:PS w' bp base us)(hn:NodeIs w' base (.iface T v) x):AccP bp base w lhs ts r (.returned (.tuple #[.agg #[.iface T v],.bool true,.nilIface])) w':=by subst h;exact⟨hX,_,_,rfl,hp,hn⟩
theorem enter283(args:Array Value)(w:World):(callFunc 283 args).run prog w=.ok (.enter 283 args) w:=by kernel_rfl
theorem enter284(args:Array Value)(w:World):(callFunc 284 args).run prog w=.ok (.enter 284 args) w:=by kernel_rfl
theorem enter285(args:Array Value)(w:World):(callFunc 285 args).run prog w=.ok (.enter 285 args) w:=by kernel_rfl
theorem enter286(args:Array Value)(w:World):(callFunc 286 args).run prog w=.ok (.enter 286 args) w:=by kernel_rfl
theorem access_w{L:Lex}(hL:LexC L)(hext:∀s,L.ext s=(extM s).map (·.2)){E:Toks→Option (Ex×Toks)}{bp base N:Nat}(hE:Sh E)(hX:Qg8 (⟨#[41]⟩:ByteArray) (Qbr E [41]) bp base N):AccC 258 (access L E) bp base (N+1):=by
 intro w ts T v x hp hwf hN hbs hx_w;have hbb:=hp.hbp;have h15:=hp.h15;have hlen:=hp.len;have HL:=Hi hX;have HE:=Hi hE;have HEX:=Hi hext;clear hX hE hext;obtain⟨u,q,rfl⟩:∃u q,ts=u::q:=by cases ts with | nil=>exact absurd rfl hp.ne | cons u q=>exact⟨u,q,rfl⟩
 go_enter func258,ntmps258
 go_upto_region 1 with(fail)
 obtain⟨w1,hw⟩:∃w1,((w.alloc (.cells #[.iface T v] 299)).alloc (.cells #[.nilIface] 299))=w1:=⟨_,rfl⟩
 rw[hw];have hF:Below w.heap.size w w1:=by rw[←hw];exact(Qab w _).alloc (by simp) _
 have hA1:w1.heap[w.heap.size]? =some (.cells #[.iface T v] 299 (0,0)):=by rw[←hw];exact Qaf (Qah (by simp) _) _
 have hR1:w1.heap[w.heap.size+1]? =some (.cells #[.nilIface] 299 (0,0)):=by rw[←hw];exact Qah (by simp) _
 have hs1:w.heap.size+2≤w1.heap.size:=by rw[←hw];simp
 clear hw;have hx1:=hx_w.later hF;have hX1:Ext (·=bp) w w1:=.below hF;have hp1:=hp.below hF;clear hx_w hp;clear hF
 go_wp2_with fail
 refine(Qa7 hp1).mono ?_;rintro e w2⟨rfl,hF⟩;have hx2:=hx1.later hF;have hA2:=Bk hF hA1;have hR2:=Bk hF hR1;have hs2:=hF.size;have hX2:=hX1.trans (.below hF);have hp2:=hp1.below hF;clear hx1 hA1 hR1 hX1 hp1;clear hF
 go_upto_region 2 with(fail)
 obtain⟨w3,hw⟩:∃w3,w2.alloc (.cells u.row 122)=w3:=⟨_,rfl⟩
 rw[hw];have hF:Below w2.heap.size w2 w3:=by rw[←hw];exact Qab _ _
 have hK3:w3.heap[w2.heap.size]? =some (.cells u.row 122 (0,0)):=by rw[←hw];exact Xa _ _
 have hs3:w2.heap.size+1≤w3.heap.size:=by rw[←hw];simp
 clear hw;have hx3:=hx2.later hF;have hA3:=Bk hF hA2;have hR3:=Bk hF hR2;have hX3:=hX2.trans (.below hF);have hp3:=hp2.below hF;clear hx2 hA2 hR2 hX2 hp2;clear hF;have c_hK_5:=Qaa (o:=5) hK3 rfl;cases ht:(u.tx.toList==[46])with
 | false =>
  have hnd:=ht;clear ht;cases ht:(u.tx.toList==[91])with
  | false =>
   have c_hA_0:=Qaa (o:=0) hA3 rfl;have lt_hA:=Qad hA3;have lt_hR:=Qad hR3;have c_hR_0:=Qaa (o:=0) hR3 rfl;have f_hR:=Qae hR3 0;have HR:=Hi (show access L E x (u::q)=some none by unfold Pg.access;simp[tx,hnd,ht]);have HB:=Hi hR3;clear hR3;go_wp2;refine QaM (R:=w.heap.size+1) _ (by kernel_rfl) rfl rfl rfl rfl (Qac (o:=0) HB.out _) ?_;exact accP_end HR.out (hX3.set (p:=⟨w.heap.size+1,0,none⟩) (.inr (show _≤w.heap.size+1 by omega)) _) (hp3.set (o:=0) (by omega) _)
  | true =>
   go_wp2_with fail
   refine(Qaz hp3).mono ?_;rintro e w4⟨rfl,hp4,hF⟩;have hx4:=hx3.keep hF (fun d hd=>by omega);have hA4:=hF.heap (by omega) hA3;have hR4:=hF.heap (by omega) hR3;have hK4:=hF.heap (by omega) hK3;have hs4:=hF.size;have hX4:=hX3.trans hF;clear hx3 hA3 hR3 hK3 hX3 hp3 c_hK_5;clear hF;clear hK4;have hwa:=hwf.adv;have hla:(adv (u::q)).length≤(u::q).length:=(Qam hwf).len;obtain⟨u2,q2,ha2⟩:∃u2 q2,adv (u::q)=u2::q2:=by
    cases h:adv (u::q)with
    | nil=>rw[h]at hwa;exact absurd rfl hwa.ne
    | cons a b=>exact⟨a,b,rfl⟩
   rw[ha2]at hwa hla hp4;have HA2:=Hi ha2;clear ha2;have htz:=hp4.sz
   go_wp2_with fail
   refine(Qaz hp4).mono ?_;rintro e w5⟨rfl,hp5,hF⟩;have hx5:=hx4.keep hF (fun d hd=>by omega);have hA5:=hF.heap (by omega) hA4;have hR5:=hF.heap (by omega) hR4;have hs5:=hF.size;have hX5:=hX4.trans hF;clear hx4 hA4 hR4 hX4 hp4;clear hF
   go_upto_region 43 with(fail)
   obtain⟨w6,hw⟩:∃w6,w5.alloc (.cells u2.row 122)=w6:=⟨_,rfl⟩
   rw[hw];have hF:Below w5.heap.size w5 w6:=by rw[←hw];exact Qab _ _
   have hK26:w6.heap[w5.heap.size]? =some (.cells u2.row 122 (0,0)):=by rw[←hw];exact Xa _ _
   have hs6:w5.heap.size+1≤w6.heap.size:=by rw[←hw];simp
   clear hw;have hx6:=hx5.later hF;have hA6:=Bk hF hA5;have hR6:=Bk hF hR5;have hX6:=hX5.trans (.below hF);have hp6:=hp5.below hF;clear hx5 hA5 hR5 hX5 hp5;clear hF;obtain⟨c_hK2_0,c_hK2_1,c_hK2_2,c_hK2_3,c_hK2_4,c_hK2_5⟩:=Cl6 hK26 rfl rfl rfl rfl rfl rfl
   go_wp2_with fail
   refine(QbY u2 _).mono ?_;rintro e w7⟨rfl,hF⟩;have hx7:=hx6.later hF;have hA7:=Bk hF hA6;have hR7:=Bk hF hR6;have hK27:=Bk hF hK26;have hs7:=hF.size;have hX7:=hX6.trans (.below hF);have hp7:=hp6.below hF;clear hx6 hA6 hR6 hK26 hX6 hp6 c_hK2_0 c_hK2_1 c_hK2_2 c_hK2_3 c_hK2_4 c_hK2_5;clear hF;cases hi:(u2.ty==4)with
   | false =>
    go_wp2_with fail
    refine(Qay hp7 _ _).mono ?_;rintro e w8⟨T9,v9,rfl,hF⟩;have hx8:=hx7.later hF;have hA8:=Bk hF hA7;have hR8:=Bk hF hR7;have hK28:=Bk hF hK27;have hs8:=hF.size;have hX8:=hX7.trans (.below hF);have hp8:=hp7.below hF;clear hx7 hA7 hR7 hK27 hX7 hp7;clear hF;have c_hR_0:=Qaa (o:=0) hR8 rfl;have f_hR:=Qae hR8 0;have lt_hR:=Qad hR8;have HR:=Hi (show access L E x (u::q)=none by unfold Pg.access;simp only[tx,hnd,ht,Xf,if_false,if_true,HA2.out,ty,hd,hi])
    have HB:=Hi hR8;clear hR8;go_wp2;refine QaM (R:=w.heap.size+1) _ (by kernel_rfl) rfl rfl rfl rfl (Qac (o:=0) HB.out _) ?_;exact QaW HR.out (hX8.set (p:=⟨w.heap.size+1,0,none⟩) (.inr (show _≤w.heap.size+1 by omega)) _)
   | true =>
    obtain⟨c_hK2_0,c_hK2_1,c_hK2_2,c_hK2_3,c_hK2_4,c_hK2_5⟩:=Cl6 hK27 rfl rfl rfl rfl rfl rfl
    go_wp2_with fail
    refine(hL.str u2 _ hp7.g (by omega) htz hp7.hbs).mono ?_;rintro e w8⟨hF,hr⟩;have hx8:=hx7.later hF;have hA8:=Bk hF hA7;have hR8:=Bk hF hR7;have hK28:=Bk hF hK27;have hs8:=hF.size;have hX8:=hX7.trans (.below hF);have hp8:=hp7.below hF;clear hx7 hA7 hR7 hK27 hX7 hp7 c_hK2_0 c_hK2_1 c_hK2_2 c_hK2_3 c_hK2_4 c_hK2_5;clear hF;cases hm:L.str u2.tx with
    | none =>
     rw[hm]at hr;obtain⟨s9,T9,v9,rfl⟩:=hr;have c_hR_0:=Qaa (o:=0) hR8 rfl;have f_hR:=Qae hR8 0;have lt_hR:=Qad hR8;have HR:=Hi (show access L E x (u::q)=none by unfold Pg.access;simp only[tx,hnd,ht,Xf,if_false,if_true,HA2.out,ty,hd,hi,hm]);have HB:=Hi hR8;clear hR8;go_wp2;refine QaM (R:=w.heap.size+1) _ (by kernel_rfl) rfl rfl rfl rfl (Qac (o:=0) HB.out _) ?_;exact QaW HR.out (hX8.set (p:=⟨w.heap.size+1,0,none⟩) (.inr (show _≤w.heap.size+1 by omega)) _)
    | some s =>
     rw[hm]at hr;obtain⟨rfl,hsz⟩:=hr;have HM:=Hi hm;clear hm;have hwb:=hwa.adv;obtain⟨u3,q3,ha3⟩:∃a b,adv (u2::q2)=a::b:=by
      cases h:adv (u2::q2)with
      | nil=>rw[h]at hwb;exact absurd rfl hwb.ne
      | cons a b=>exact⟨a,b,rfl⟩
     rw[ha3]at hwb hp8;have HA3:=Hi ha3;clear ha3;cases hj:(u3.tx.toList==[93])with
     | false =>
      go_wp2_with fail
      refine(Qa9 hp8 hj).mono ?_;rintro e w9⟨T9,v9,rfl,hp_w9,hF⟩;have hx9:=hx8.keep hF (fun d hd=>by omega);have hA9:=hF.heap (by omega) hA8;have hR9:=hF.heap (by omega) hR8;have hK29:=hF.heap (by omega) hK28;have hs9:=hF.size;have hX9:=hX8.trans hF;clear hx8 hA8 hR8 hK28 hX8 hp8;clear hF;have c_hR_0:=Qaa (o:=0) hR9 rfl;have f_hR:=Qae hR9 0;have lt_hR:=Qad hR9;have HR:=Hi (show access L E x (u::q)=none by unfold Pg.access;simp only[tx,hnd,ht,Xf,if_false,if_true,HA2.out,ty,hd,hi,HM.out,HA3.out,exact,hj])
      have HB:=Hi hR9;clear hR9;go_wp2;refine QaM (R:=w.heap.size+1) _ (by kernel_rfl) rfl rfl rfl rfl (Qac (o:=0) HB.out _) ?_;exact QaW HR.out (hX9.set (p:=⟨w.heap.size+1,0,none⟩) (.inr (show _≤w.heap.size+1 by omega)) _)
     | true =>
      go_wp2_with fail
      refine(Qa0 hp8 hj).mono ?_;rintro e w9⟨rfl,hp_w9,hF⟩;have hx9:=hx8.keep hF (fun d hd=>by omega);have hA9:=hF.heap (by omega) hA8;have hR9:=hF.heap (by omega) hR8;have hK29:=hF.heap (by omega) hK28;have hs9:=hF.size;have hX9:=hX8.trans hF;clear hx8 hA8 hR8 hK28 hX8 hp8;clear hF;have c_hA_0:=Qaa (o:=0) hA9 rfl
      go_wp2_with fail
      refine(Qft _ _ _ _).mono ?_;rintro e w10⟨rfl,hF⟩;have hx10:=hx9.later hF;have hA10:=Bk hF hA9;have hR10:=Bk hF hR9;have hK210:=Bk hF hK29;have hs10:=hF.size;have hX10:=hX9.trans (.below hF);have hp10:=hp_w9.below hF;clear hx9 hA9 hR9 hK29 hX9 hp_w9 c_hA_0;clear hF;have c_hR_0:=Qaa (o:=0) hR10 rfl;have f_hR:=Qae hR10 0;have lt_hR:=Qad hR10;have HR:=Hi (show access L E x (u::q)=some (some (.sop 194 x s,adv (u3::q3)))by unfold Pg.access;simp only[tx,hnd,ht,Xf,if_false,if_true,HA2.out,ty,hd,hi,HM.out,HA3.out,exact,hj])
      have HB:=Hi hR10;clear hR10;go_wp2;refine QaM (R:=w.heap.size+1) _ (by kernel_rfl) rfl rfl rfl rfl (Qac (o:=0) HB.out _) ?_;exact Qbl HR.out (hX10.set (p:=⟨w.heap.size+1,0,none⟩) (.inr (show _≤w.heap.size+1 by omega)) _) (hp10.set (o:=0) (by omega) _) (NodeIs.store (o:=0) (.sop 194 _ _ _ hx10) HB.out (by decide) _)
 | true =>
  go_wp2_with fail
  refine(Qaz hp3).mono ?_;rintro e w4⟨rfl,hp4,hF⟩;have hx4:=hx3.keep hF (fun d hd=>by omega);have hA4:=hF.heap (by omega) hA3;have hR4:=hF.heap (by omega) hR3;have hK4:=hF.heap (by omega) hK3;have hs4:=hF.size;have hX4:=hX3.trans hF;clear hx3 hA3 hR3 hK3 hX3 hp3 c_hK_5;clear hF;clear hK4;have hwa:=hwf.adv;have hla:(adv (u::q)).length<(u::q).length:=Qax hwf (s:=[46]) ht (by decide);obtain⟨u2,q2,ha2⟩:∃u2 q2,adv (u::q)=u2::q2:=by
   cases h:adv (u::q)with
   | nil=>rw[h]at hwa;exact absurd rfl hwa.ne
   | cons a b=>exact⟨a,b,rfl⟩
  rw[ha2]at hwa hla hp4;have HA2:=Hi ha2;clear ha2
  go_wp2_with fail
  refine(Qaz hp4).mono ?_;rintro e w5⟨rfl,hp5,hF⟩;have hx5:=hx4.keep hF (fun d hd=>by omega);have hA5:=hF.heap (by omega) hA4;have hR5:=hF.heap (by omega) hR4;have hs5:=hF.size;have hX5:=hX4.trans hF;clear hx4 hA4 hR4 hX4 hp4;clear hF
  go_upto_region 7 with(fail)
  obtain⟨w6,hw⟩:∃w6,w5.alloc (.cells u2.row 122)=w6:=⟨_,rfl⟩
  rw[hw];have hF:Below w5.heap.size w5 w6:=by rw[←hw];exact Qab _ _
  have hK26:w6.heap[w5.heap.size]? =some (.cells u2.row 122 (0,0)):=by rw[←hw];exact Xa _ _
  have hs6:w5.heap.size+1≤w6.heap.size:=by rw[←hw];simp
  clear hw;have hx6:=hx5.later hF;have hA6:=Bk hF hA5;have hR6:=Bk hF hR5;have hX6:=hX5.trans (.below hF);have hp6:=hp5.below hF;clear hx5 hA5 hR5 hX5 hp5;clear hF;obtain⟨c_hK2_0,c_hK2_1,c_hK2_2,c_hK2_3,c_hK2_4,c_hK2_5⟩:=Cl6 hK26 rfl rfl rfl rfl rfl rfl
  go_wp2_with fail
  refine(Qbd u2 _).mono ?_;rintro e w7⟨rfl,hF⟩;have hx7:=hx6.later hF;have hA7:=Bk hF hA6;have hR7:=Bk hF hR6;have hK27:=Bk hF hK26;have hs7:=hF.size;have hX7:=hX6.trans (.below hF);have hp7:=hp6.below hF;clear hx6 hA6 hR6 hK26 hX6 hp6 c_hK2_0 c_hK2_1 c_hK2_2 c_hK2_3 c_hK2_4 c_hK2_5;clear hF;cases hi:(u2.ty==1)with
  | false =>
   go_wp2_with fail
   refine(Qay hp7 _ _).mono ?_;rintro e w8⟨T9,v9,rfl,hF⟩;have hx8:=hx7.later hF;have hA8:=Bk hF hA7;have hR8:=Bk hF hR7;have hK28:=Bk hF hK27;have hs8:=hF.size;have hX8:=hX7.trans (.below hF);have hp8:=hp7.below hF;clear hx7 hA7 hR7 hK27 hX7 hp7;clear hF;have c_hR_0:=Qaa (o:=0) hR8 rfl;have f_hR:=Qae hR8 0;have lt_hR:=Qad hR8;have HR:=Hi (show access L E x (u::q)=none by unfold Pg.access;simp only[tx,ht,Xf,if_false,if_true,HA2.out,ty,hd,hi])
   have HB:=Hi hR8;clear hR8;go_wp2;refine QaM (R:=w.heap.size+1) _ (by kernel_rfl) rfl rfl rfl rfl (Qac (o:=0) HB.out _) ?_;exact QaW HR.out (hX8.set (p:=⟨w.heap.size+1,0,none⟩) (.inr (show _≤w.heap.size+1 by omega)) _)
  | true =>
   have hwb:=hwa.adv;have hlb:(adv (u2::q2)).length≤(u2::q2).length:=(Qam hwa).len;obtain⟨u3,q3,ha3⟩:∃a b,adv (u2::q2)=a::b:=by
    cases h:adv (u2::q2)with
    | nil=>rw[h]at hwb;exact absurd rfl hwb.ne
    | cons a b=>exact⟨a,b,rfl⟩
   rw[ha3]at hwb hlb hp7;have HA3:=Hi ha3;clear ha3
   go_wp2_with fail
   refine(Qa7 hp7).mono ?_;rintro e w8⟨rfl,hF⟩;have hx8:=hx7.later hF;have hA8:=Bk hF hA7;have hR8:=Bk hF hR7;have hK28:=Bk hF hK27;have hs8:=hF.size;have hX8:=hX7.trans (.below hF);have hp8:=hp7.below hF;clear hx7 hA7 hR7 hK27 hX7 hp7;clear hF;have c_hK2_5:=Qaa (o:=5) hK28 rfl;cases hj:(u3.tx.toList==[40])with
   | false =>
    have c_hA_0:=Qaa (o:=0) hA8 rfl
    go_wp2_with fail
    refine(Qft _ _ _ _).mono ?_;rintro e w9⟨rfl,hF⟩;have hx9:=hx8.later hF;have hA9:=Bk hF hA8;have hR9:=Bk hF hR8;have hK29:=Bk hF hK28;have hs9:=hF.size;have hX9:=hX8.trans (.below hF);have hp_w9:=hp8.below hF;clear hx8 hA8 hR8 hK28 hX8 hp8 c_hK2_5 c_hA_0;clear hF;have c_hR_0:=Qaa (o:=0) hR9 rfl;have f_hR:=Qae hR9 0;have lt_hR:=Qad hR9;have HR:=Hi (show access L E x (u::q)=some (some (.sop 194 x u2.tx,u3::q3))by unfold Pg.access;simp only[tx,ht,Xf,if_false,if_true,HA2.out,ty,hd,hi,HA3.out,hj])
    have HB:=Hi hR9;clear hR9;go_wp2;refine QaM (R:=w.heap.size+1) _ (by kernel_rfl) rfl rfl rfl rfl (Qac (o:=0) HB.out _) ?_;exact Qbl HR.out (hX9.set (p:=⟨w.heap.size+1,0,none⟩) (.inr (show _≤w.heap.size+1 by omega)) _) (hp_w9.set (o:=0) (by omega) _) (NodeIs.store (o:=0) (.sop 194 _ _ _ hx9) HB.out (by decide) _)
   | true =>
    go_wp2_with fail
    refine(Qaz hp8).mono ?_;rintro e w9⟨rfl,hp_w9,hF⟩;have hx9:=hx8.keep hF (fun d hd=>by omega);have hA9:=hF.heap (by omega) hA8;have hR9:=hF.heap (by omega) hR8;have hK29:=hF.heap (by omega) hK28;have hs9:=hF.size;have hX9:=hX8.trans hF;clear hx8 hA8 hR8 hK28 hX8 hp8 c_hK2_5;clear hF;clear hK29;have hwc:=hwb.adv;have hlc:(adv (u3::q3)).length≤(u3::q3).length:=(Qam hwb).len
    go_wp2_with fail
    refine(HL.out _ _ hp_w9 hwc (by omega) (by omega)).mono ?_;rintro e w10⟨hF,hr⟩;have hx10:=hx9.keep hF (fun d hd=>by omega);have hA10:=hF.heap (by omega) hA9;have hR10:=hF.heap (by omega) hR9;have hs10:=hF.size;have hX10:=hX9.trans hF;clear hx9 hA9 hR9 hX9;clear hF;cases hm:Qbr E [41] (adv (u3::q3))with
    | none =>
     rw[hm]at hr;obtain⟨s9,T9,v9,rfl⟩:=hr;have c_hR_0:=Qaa (o:=0) hR10 rfl;have f_hR:=Qae hR10 0;have lt_hR:=Qad hR10;have HR:=Hi (show access L E x (u::q)=none by unfold Pg.access;simp only[tx,ht,Xf,if_false,if_true,HA2.out,ty,hd,hi,HA3.out,hj,hm]);have HB:=Hi hR10;clear hR10;go_wp2;refine QaM (R:=w.heap.size+1) _ (by kernel_rfl) rfl rfl rfl rfl (Qac (o:=0) HB.out _) ?_;exact QaW HR.out (hX10.set (p:=⟨w.heap.size+1,0,none⟩) (.inr (show _≤w.heap.size+1 by omega)) _)
    | some p2 =>
     obtain⟨l,us⟩:=p2;rw[hm]at hr;obtain⟨s9,vals,rfl,hp9,hO10,hm10,hll⟩:=hr;have hwd:=(Qdf HE.out _ _ _ _ hwc hm).wf hwc;have HM:=Hi hm;clear hm;obtain⟨u4,q4,rfl⟩:∃u q,us=u::q:=by cases us with | nil=>exact absurd rfl hp9.ne | cons u q=>exact⟨u,q,rfl⟩
     have hacc:access L E x (u::q)=(match method L u2.tx x l with
      | none=>none
      | some z=>some (some (z,adv (u4::q4)))):=by
      unfold Pg.access;simp only[tx,ht,Xf,if_false,if_true,HA2.out,ty,hd,hi,HA3.out,hj,HM.out];cases method L u2.tx x l<;>rfl
     have HACC:=Hi hacc;clear hacc
     go_wp2_with fail
     refine(Qaz hp9).mono ?_;rintro e w11⟨rfl,hp11,hF⟩;have hx11:=hx10.keep hF (fun d hd=>by omega);have hm11:=hm10.keep hF (fun d hd=>by omega);have hA11:=hF.heap (by omega) hA10;have hR11:=hF.heap (by omega) hR10;have hO11:=Qaj hO10 hF (fun d hd=>by omega);have hs11:=hF.size;have hX11:=hX10.trans hF;clear hx10 hm10 hA10 hR10 hO10 hX10 hp9;clear hF
     go_upto_region 17 with(fail)
     obtain⟨w12,hw⟩:∃w12,w11.alloc (.cells #[.nilIface] 299)=w12:=⟨_,rfl⟩
     rw[hw];have hF:Below w11.heap.size w11 w12:=by rw[←hw];exact Qab _ _
     have hN12:w12.heap[w11.heap.size]? =some (.cells #[.nilIface] 299 (0,0)):=by rw[←hw];exact Xa _ _
     have hs12:w11.heap.size+1≤w12.heap.size:=by rw[←hw];simp
     clear hw;have hx12:=hx11.later hF;have hm12:=hm11.later hF;have hA12:=Bk hF hA11;have hR12:=Bk hF hR11;have hO12:=Qaj (S:=fun _=>False) hO11 (.below hF) (fun _ h=>h.elim);have hX12:=hX11.trans (.below hF);have hp12:=hp11.below hF;clear hx11 hm11 hA11 hR11 hO11 hX11 hp11;clear hF;cases ht:(u2.tx.toList==[99,111,110,116,97,105,110,115])with
     | true =>
      have HMT:=Hi (show method L u2.tx x l=one 278 x l by unfold Pg.method;simp only[ht,Xf,if_false,if_true]);have c_hA_0:=Qaa (o:=0) hA12 rfl
      go_wp2_with fail
      refine(QgC 282 278 enter282 n282_c u2.tx hp12 (by omega) hx12 hO12 hm12 hll).mono ?_;rintro e w13⟨hF,hr⟩;clear hm12 hO12;have hx13:=hx12.later hF;have hA13:=Bk hF hA12;have hR13:=Bk hF hR12;have hN13:=Bk hF hN12;have hs13:=hF.size;have hX13:=hX12.trans (.below hF);have hp13:=hp12.below hF;clear hx12 hA12 hR12 hN12 hX12 hp12 c_hA_0;clear hF;cases hm:one 278 x l with
      | none =>
       rw[hm]at hr;obtain⟨T9,v9,rfl⟩:=hr;have c_hN_0:=Qaa (o:=0) hN13 rfl;have f_hN:=Qae hN13 0;have lt_hN:=Qad hN13;have lt_hR:=Qad hR13;have c_hR_0:=Qaa (o:=0) hR13 rfl;have f_hR:=Qae hR13 0;have HR:=Hi (show access L E x (u::q)=none by rw[HACC.out,HMT.out,hm]);clear hm;have HB:=Hi hR13;clear hR13 hN13;go_wp2;refine QaM (R:=w.heap.size+1) _ (by kernel_rfl) rfl rfl rfl rfl (Qac (o:=0) (Qag HB.out (by omega) _) _) ?_
       exact QaW HR.out ((hX13.set (p:=⟨w11.heap.size,0,none⟩) (.inr (show _≤w11.heap.size by omega)) _).set (p:=⟨w.heap.size+1,0,none⟩) (.inr (show _≤w.heap.size+1 by omega)) _)
      | some z =>
       rw[hm]at hr;obtain⟨T9,v9,rfl,hz13⟩:=hr;have HR:=Hi (show access L E x (u::q)=some (some (z,adv (u4::q4)))by rw[HACC.out,HMT.out,hm]);clear hm;have c_hN_0:=Qaa (o:=0) hN13 rfl;have f_hN:=Qae hN13 0;have lt_hN:=Qad hN13;have lt_hR:=Qad hR13
       go_upto_region 36 with(fail)
       obtain⟨w14,hw⟩:∃w14,w13.setCell ⟨w11.heap.size,0,none⟩ (.iface T9 v9)=w14:=⟨_,rfl⟩
       rw[hw];have hz14:NodeIs w14 base _ _:=hw▸hz13.store (o:=0) hN13 (by decide) (.iface T9 v9);have hA14:w14.heap[w.heap.size]? =some (.cells #[.iface T v] 299 (0,0)):=hw▸Qag (o:=0) hA13 (by omega) (.iface T9 v9);have hR14:w14.heap[w.heap.size+1]? =some (.cells #[.nilIface] 299 (0,0)):=hw▸Qag (o:=0) hR13 (by omega) (.iface T9 v9);have hN14:w14.heap[w11.heap.size]? =some (.cells #[.iface T9 v9] 299 (0,0)):=hw▸Qac (o:=0) hN13 (.iface T9 v9)
       have hX14:Ext (·=bp) w w14:=hw▸hX13.set (p:=⟨w11.heap.size,0,none⟩) (.inr (show w.heap.size≤w11.heap.size by omega)) (.iface T9 v9);have hs14:w13.heap.size≤w14.heap.size:=by rw[←hw];simp
       have hp14:PS w14 bp base _:=hw▸hp13.set (o:=0) (show base≤w11.heap.size by omega) (.iface T9 v9);clear hz13 hA13 hR13 hN13 hX13 hp13 c_hN_0 f_hN lt_hN lt_hR hw;have c_hN_0:=Qaa (o:=0) hN14 rfl;have c_hR_0:=Qaa (o:=0) hR14 rfl;have f_hR:=Qae hR14 0;have lt_hR:=Qad hR14;have HR:=Hi (show access L E x (u::q)=some (some (z,adv (u4::q4)))from HR.out);have HB:=Hi hR14;clear hR14;go_wp2;refine QaM (R:=w.heap.size+1) _ (by kernel_rfl) rfl rfl rfl rfl (Qac (o:=0) HB.out _) ?_
       exact Qbl HR.out (hX14.set (p:=⟨w.heap.size+1,0,none⟩) (.inr (show _≤w.heap.size+1 by omega)) _) (hp14.set (o:=0) (by omega) _) (NodeIs.store (o:=0) (hz14) HB.out (by decide) _)
     | false =>
      have ht_contains:=ht;clear ht;cases ht:(u2.tx.toList==[99,111,110,116,97,105,110,115,65,108,108])with
      | true =>
       have HMT:=Hi (show method L u2.tx x l=one 279 x l by unfold Pg.method;simp only[ht_contains,ht,Xf,if_false,if_true]);have c_hA_0:=Qaa (o:=0) hA12 rfl
       go_wp2_with fail
       refine(QgC 283 279 enter283 n283_c u2.tx hp12 (by omega) hx12 hO12 hm12 hll).mono ?_;rintro e w13⟨hF,hr⟩;clear hm12 hO12;have hx13:=hx12.later hF;have hA13:=Bk hF hA12;have hR13:=Bk hF hR12;have hN13:=Bk hF hN12;have hs13:=hF.size;have hX13:=hX12.trans (.below hF);have hp13:=hp12.below hF;clear hx12 hA12 hR12 hN12 hX12 hp12 c_hA_0;clear hF;cases hm:one 279 x l with
       | none =>
        rw[hm]at hr;obtain⟨T9,v9,rfl⟩:=hr;have c_hN_0:=Qaa (o:=0) hN13 rfl;have f_hN:=Qae hN13 0;have lt_hN:=Qad hN13;have lt_hR:=Qad hR13;have c_hR_0:=Qaa (o:=0) hR13 rfl;have f_hR:=Qae hR13 0;have HR:=Hi (show access L E x (u::q)=none by rw[HACC.out,HMT.out,hm]);clear hm;have HB:=Hi hR13;clear hR13 hN13;go_wp2;refine QaM (R:=w.heap.size+1) _ (by kernel_rfl) rfl rfl rfl rfl (Qac (o:=0) (Qag HB.out (by omega) _) _) ?_
        exact QaW HR.out ((hX13.set (p:=⟨w11.heap.size,0,none⟩) (.inr (show _≤w11.heap.size by omega)) _).set (p:=⟨w.heap.size+1,0,none⟩) (.inr (show _≤w.heap.size+1 by omega)) _)
       | some z =>
        rw[hm]at hr;obtain⟨T9,v9,rfl,hz13⟩:=hr;have HR:=Hi (show access L E x (u::q)=some (some (z,adv (u4::q4)))by rw[HACC.out,HMT.out,hm]);clear hm;have c_hN_0:=Qaa (o:=0) hN13 rfl;have f_hN:=Qae hN13 0;have lt_hN:=Qad hN13;have lt_hR:=Qad hR13
        go_upto_region 36 with(fail)
        obtain⟨w14,hw⟩:∃w14,w13.setCell ⟨w11.heap.size,0,none⟩ (.iface T9 v9)=w14:=⟨_,rfl⟩
        rw[hw];have hz14:NodeIs w14 base _ _:=hw▸hz13.store (o:=0) hN13 (by decide) (.iface T9 v9);have hA14:w14.heap[w.heap.size]? =some (.cells #[.iface T v] 299 (0,0)):=hw▸Qag (o:=0) hA13 (by omega) (.iface T9 v9);have hR14:w14.heap[w.heap.size+1]? =some (.cells #[.nilIface] 299 (0,0)):=hw▸Qag (o:=0) hR13 (by omega) (.iface T9 v9);have hN14:w14.heap[w11.heap.size]? =some (.cells #[.iface T9 v9] 299 (0,0)):=hw▸Qac (o:=0) hN13 (.iface T9 v9)
        have hX14:Ext (·=bp) w w14:=hw▸hX13.set (p:=⟨w11.heap.size,0,none⟩) (.inr (show w.heap.size≤w11.heap.size by omega)) (.iface T9 v9);have hs14:w13.heap.size≤w14.heap.size:=by rw[←hw];simp
        have hp14:PS w14 bp base _:=hw▸hp13.set (o:=0) (show base≤w11.heap.size by omega) (.iface T9 v9);clear hz13 hA13 hR13 hN13 hX13 hp13 c_hN_0 f_hN lt_hN lt_hR hw;have c_hN_0:=Qaa (o:=0) hN14 rfl;have c_hR_0:=Qaa (o:=0) hR14 rfl;have f_hR:=Qae hR14 0;have lt_hR:=Qad hR14;have HR:=Hi (show access L E x (u::q)=some (some (z,adv (u4::q4)))from HR.out);have HB:=Hi hR14;clear hR14;go_wp2;refine QaM (R:=w.heap.size+1) _ (by kernel_rfl) rfl rfl rfl rfl (Qac (o:=0) HB.out _) ?_
        exact Qbl HR.out (hX14.set (p:=⟨w.heap.size+1,0,none⟩) (.inr (show _≤w.heap.size+1 by omega)) _) (hp14.set (o:=0) (by omega) _) (NodeIs.store (o:=0) (hz14) HB.out (by decide) _)
      | false =>
       have ht_containsAll:=ht;clear ht;cases ht:(u2.tx.toList==[99,111,110,116,97,105,110,115,65,110,121])with
       | true =>
        have HMT:=Hi (show method L u2.tx x l=one 280 x l by unfold Pg.method;simp only[ht_contains,ht_containsAll,ht,Xf,if_false,if_true]);have c_hA_0:=Qaa (o:=0) hA12 rfl
        go_wp2_with fail
        refine(QgC 284 280 enter284 n284_c u2.tx hp12 (by omega) hx12 hO12 hm12 hll).mono ?_;rintro e w13⟨hF,hr⟩;clear hm12 hO12;have hx13:=hx12.later hF;have hA13:=Bk hF hA12;have hR13:=Bk hF hR12;have hN13:=Bk hF hN12;have hs13:=hF.size;have hX13:=hX12.trans (.below hF);have hp13:=hp12.below hF;clear hx12 hA12 hR12 hN12 hX12 hp12 c_hA_0;clear hF;cases hm:one 280 x l with
        | none =>
         rw[hm]at hr;obtain⟨T9,v9,rfl⟩:=hr;have c_hN_0:=Qaa (o:=0) hN13 rfl;have f_hN:=Qae hN13 0;have lt_hN:=Qad hN13;have lt_hR:=Qad hR13;have c_hR_0:=Qaa (o:=0) hR13 rfl;have f_hR:=Qae hR13 0;have HR:=Hi (show access L E x (u::q)=none by rw[HACC.out,HMT.out,hm]);clear hm;have HB:=Hi hR13;clear hR13 hN13;go_wp2;refine QaM (R:=w.heap.size+1) _ (by kernel_rfl) rfl rfl rfl rfl (Qac (o:=0) (Qag HB.out (by omega) _) _) ?_
         exact QaW HR.out ((hX13.set (p:=⟨w11.heap.size,0,none⟩) (.inr (show _≤w11.heap.size by omega)) _).set (p:=⟨w.heap.size+1,0,none⟩) (.inr (show _≤w.heap.size+1 by omega)) _)
        | some z =>
         rw[hm]at hr;obtain⟨T9,v9,rfl,hz13⟩:=hr;have HR:=Hi (show access L E x (u::q)=some (some (z,adv (u4::q4)))by rw[HACC.out,HMT.out,hm]);clear hm;have c_hN_0:=Qaa (o:=0) hN13 rfl;have f_hN:=Qae hN13 0;have lt_hN:=Qad hN13;have lt_hR:=Qad hR13
         go_upto_region 36 with(fail)
         obtain⟨w14,hw⟩:∃w14,w13.setCell ⟨w11.heap.size,0,none⟩ (.iface T9 v9)=w14:=⟨_,rfl⟩
         rw[hw];have hz14:NodeIs w14 base _ _:=hw▸hz13.store (o:=0) hN13 (by decide) (.iface T9 v9);have hA14:w14.heap[w.heap.size]? =some (.cells #[.iface T v] 299 (0,0)):=hw▸Qag (o:=0) hA13 (by omega) (.iface T9 v9);have hR14:w14.heap[w.heap.size+1]? =some (.cells #[.nilIface] 299 (0,0)):=hw▸Qag (o:=0) hR13 (by omega) (.iface T9 v9);have hN14:w14.heap[w11.heap.size]? =some (.cells #[.iface T9 v9] 299 (0,0)):=hw▸Qac (o:=0) hN13 (.iface T9 v9)
         have hX14:Ext (·=bp) w w14:=hw▸hX13.set (p:=⟨w11.heap.size,0,none⟩) (.inr (show w.heap.size≤w11.heap.size by omega)) (.iface T9 v9);have hs14:w13.heap.size≤w14.heap.size:=by rw[←hw];simp
         have hp14:PS w14 bp base _:=hw▸hp13.set (o:=0) (show base≤w11.heap.size by omega) (.iface T9 v9);clear hz13 hA13 hR13 hN13 hX13 hp13 c_hN_0 f_hN lt_hN lt_hR hw;have c_hN_0:=Qaa (o:=0) hN14 rfl;have c_hR_0:=Qaa (o:=0) hR14 rfl;have f_hR:=Qae hR14 0;have lt_hR:=Qad hR14;have HR:=Hi (show access L E x (u::q)=some (some (z,adv (u4::q4)))from HR.out);have HB:=Hi hR14;clear hR14;go_wp2;refine QaM (R:=w.heap.size+1) _ (by kernel_rfl) rfl rfl rfl rfl (Qac (o:=0) HB.out _) ?_
         exact Qbl HR.out (hX14.set (p:=⟨w.heap.size+1,0,none⟩) (.inr (show _≤w.heap.size+1 by omega)) _) (hp14.set (o:=0) (by omega) _) (NodeIs.store (o:=0) (hz14) HB.out (by decide) _)
       | false =>
        have ht_containsAny:=ht;clear ht;cases ht:(u2.tx.toList==[104,97,115,84,97,103])with
        | true =>
         have HMT:=Hi (show method L u2.tx x l=one 270 x l by unfold Pg.method;simp only[ht_contains,ht_containsAll,ht_containsAny,ht,Xf,if_false,if_true]);have c_hA_0:=Qaa (o:=0) hA12 rfl
         go_wp2_with fail
         refine(QgC 285 270 enter285 n285_c u2.tx hp12 (by omega) hx12 hO12 hm12 hll).mono ?_;rintro e w13⟨hF,hr⟩;clear hm12 hO12;have hx13:=hx12.later hF;have hA13:=Bk hF hA12;have hR13:=Bk hF hR12;have hN13:=Bk hF hN12;have hs13:=hF.size;have hX13:=hX12.trans (.below hF);have hp13:=hp12.below hF;clear hx12 hA12 hR12 hN12 hX12 hp12 c_hA_0;clear hF;cases hm:one 270 x l with
         | none =>
          rw[hm]at hr;obtain⟨T9,v9,rfl⟩:=hr;have c_hN_0:=Qaa (o:=0) hN13 rfl;have f_hN:=Qae hN13 0;have lt_hN:=Qad hN13;have lt_hR:=Qad hR13;have c_hR_0:=Qaa (o:=0) hR13 rfl;have f_hR:=Qae hR13 0;have HR:=Hi (show access L E x (u::q)=none by rw[HACC.out,HMT.out,hm]);clear hm;have HB:=Hi hR13;clear hR13 hN13;go_wp2;refine QaM (R:=w.heap.size+1) _ (by kernel_rfl) rfl rfl rfl rfl (Qac (o:=0) (Qag HB.out (by omega) _) _) ?_
          exact QaW HR.out ((hX13.set (p:=⟨w11.heap.size,0,none⟩) (.inr (show _≤w11.heap.size by omega)) _).set (p:=⟨w.heap.size+1,0,none⟩) (.inr (show _≤w.heap.size+1 by omega)) _)
         | some z =>
          rw[hm]at hr;obtain⟨T9,v9,rfl,hz13⟩:=hr;have HR:=Hi (show access L E x (u::q)=some (some (z,adv (u4::q4)))by rw[HACC.out,HMT.out,hm]);clear hm;have c_hN_0:=Qaa (o:=0) hN13 rfl;have f_hN:=Qae hN13 0;have lt_hN:=Qad hN13;have lt_hR:=Qad hR13
          go_upto_region 36 with(fail)
          obtain⟨w14,hw⟩:∃w14,w13.setCell ⟨w11.heap.size,0,none⟩ (.iface T9 v9)=w14:=⟨_,rfl⟩
          rw[hw];have hz14:NodeIs w14 base _ _:=hw▸hz13.store (o:=0) hN13 (by decide) (.iface T9 v9);have hA14:w14.heap[w.heap.size]? =some (.cells #[.iface T v] 299 (0,0)):=hw▸Qag (o:=0) hA13 (by omega) (.iface T9 v9);have hR14:w14.heap[w.heap.size+1]? =some (.cells #[.nilIface] 299 (0,0)):=hw▸Qag (o:=0) hR13 (by omega) (.iface T9 v9);have hN14:w14.heap[w11.heap.size]? =some (.cells #[.iface T9 v9] 299 (0,0)):=hw▸Qac (o:=0) hN13 (.iface T9 v9)
          have hX14:Ext (·=bp) w w14:=hw▸hX13.set (p:=⟨w11.heap.size,0,none⟩) (.inr (show w.heap.size≤w11.heap.size by omega)) (.iface T9 v9);have hs14:w13.heap.size≤w14.heap.size:=by rw[←hw];simp
          have hp14:PS w14 bp base _:=hw▸hp13.set (o:=0) (show base≤w11.heap.size by omega) (.iface T9 v9);clear hz13 hA13 hR13 hN13 hX13 hp13 c_hN_0 f_hN lt_hN lt_hR hw;have c_hN_0:=Qaa (o:=0) hN14 rfl;have c_hR_0:=Qaa (o:=0) hR14 rfl;have f_hR:=Qae hR14 0;have lt_hR:=Qad hR14;have HR:=Hi (show access L E x (u::q)=some (some (z,adv (u4::q4)))from HR.out);have HB:=Hi hR14;clear hR14;go_wp2;refine QaM (R:=w.heap.size+1) _ (by kernel_rfl) rfl rfl rfl rfl (Qac (o:=0) HB.out _) ?_
          exact Qbl HR.out (hX14.set (p:=⟨w.heap.size+1,0,none⟩) (.inr (show _≤w.heap.size+1 by omega)) _) (hp14.set (o:=0) (by omega) _) (NodeIs.store (o:=0) (hz14) HB.out (by decide) _)
        | false =>
         have ht_hasTag:=ht;clear ht;cases ht:(u2.tx.toList==[103,101,116,84,97,103])with
         | true =>
          have HMT:=Hi (show method L u2.tx x l=one 271 x l by unfold Pg.method;simp only[ht_contains,ht_containsAll,ht_containsAny,ht_hasTag,ht,Xf,if_false,if_true]);have c_hA_0:=Qaa (o:=0) hA12 rfl
          go_wp2_with fail
          refine(QgC 286 271 enter286 n286_c u2.tx hp12 (by omega) hx12 hO12 hm12 hll).mono ?_;rintro e w13⟨hF,hr⟩;clear hm12 hO12;have hx13:=hx12.later hF;have hA13:=Bk hF hA12;have hR13:=Bk hF hR12;have hN13:=Bk hF hN12;have hs13:=hF.size;have hX13:=hX12.trans (.below hF);have hp13:=hp12.below hF;clear hx12 hA12 hR12 hN12 hX12 hp12 c_hA_0;clear hF;cases hm:one 271 x l with
          | none =>
           rw[hm]at hr;obtain⟨T9,v9,rfl⟩:=hr;have c_hN_0:=Qaa (o:=0) hN13 rfl;have f_hN:=Qae hN13 0;have lt_hN:=Qad hN13;have lt_hR:=Qad hR13;have c_hR_0:=Qaa (o:=0) hR13 rfl;have f_hR:=Qae hR13 0;have HR:=Hi (show access L E x (u::q)=none by rw[HACC.out,HMT.out,hm]);clear hm;have HB:=Hi hR13;clear hR13 hN13;go_wp2;refine QaM (R:=w.heap.size+1) _ (by kernel_rfl) rfl rfl rfl rfl (Qac (o:=0) (Qag HB.out (by omega) _) _) ?_
           exact QaW HR.out ((hX13.set (p:=⟨w11.heap.size,0,none⟩) (.inr (show _≤w11.heap.size by omega)) _).set (p:=⟨w.heap.size+1,0,none⟩) (.inr (show _≤w.heap.size+1 by omega)) _)
          | some z =>
           rw[hm]at hr;obtain⟨T9,v9,rfl,hz13⟩:=hr;have HR:=Hi (show access L E x (u::q)=some (some (z,adv (u4::q4)))by rw[HACC.out,HMT.out,hm]);clear hm;have c_hN_0:=Qaa (o:=0) hN13 rfl;have f_hN:=Qae hN13 0;have lt_hN:=Qad hN13;have lt_hR:=Qad hR13
           go_upto_region 36 with(fail)
           obtain⟨w14,hw⟩:∃w14,w13.setCell ⟨w11.heap.size,0,none⟩ (.iface T9 v9)=w14:=⟨_,rfl⟩
           rw[hw];have hz14:NodeIs w14 base _ _:=hw▸hz13.store (o:=0) hN13 (by decide) (.iface T9 v9);have hA14:w14.heap[w.heap.size]? =some (.cells #[.iface T v] 299 (0,0)):=hw▸Qag (o:=0) hA13 (by omega) (.iface T9 v9);have hR14:w14.heap[w.heap.size+1]? =some (.cells #[.nilIface] 299 (0,0)):=hw▸Qag (o:=0) hR13 (by omega) (.iface T9 v9);have hN14:w14.heap[w11.heap.size]? =some (.cells #[.iface T9 v9] 299 (0,0)):=hw▸Qac (o:=0) hN13 (.iface T9 v9)
           have hX14:Ext (·=bp) w w14:=hw▸hX13.set (p:=⟨w11.heap.size,0,none⟩) (.inr (show w.heap.size≤w11.heap.size by omega)) (.iface T9 v9);have hs14:w13.heap.size≤w14.heap.size:=by rw[←hw];simp
           have hp14:PS w14 bp base _:=hw▸hp13.set (o:=0) (show base≤w11.heap.size by omega) (.iface T9 v9);clear hz13 hA13 hR13 hN13 hX13 hp13 c_hN_0 f_hN lt_hN lt_hR hw;have c_hN_0:=Qaa (o:=0) hN14 rfl;have c_hR_0:=Qaa (o:=0) hR14 rfl;have f_hR:=Qae hR14 0;have lt_hR:=Qad hR14;have HR:=Hi (show access L E x (u::q)=some (some (z,adv (u4::q4)))from HR.out);have HB:=Hi hR14;clear hR14;go_wp2;refine QaM (R:=w.heap.size+1) _ (by kernel_rfl) rfl rfl rfl rfl (Qac (o:=0) HB.out _) ?_
           exact Qbl HR.out (hX14.set (p:=⟨w.heap.size+1,0,none⟩) (.inr (show _≤w.heap.size+1 by omega)) _) (hp14.set (o:=0) (by omega) _) (NodeIs.store (o:=0) (hz14) HB.out (by decide) _)
         | false =>
          have ht_getTag:=ht;clear ht;cases ht:(u2.tx.toList==[105,115,69,109,112,116,121])with
          | true =>
           have HMT:=Hi (show method L u2.tx x l=zero x l by unfold Pg.method;simp only[ht_contains,ht_containsAll,ht_containsAny,ht_hasTag,ht_getTag,ht,Xf,if_false,if_true];cases l<;>rfl);have c_hA_0:=Qaa (o:=0) hA12 rfl
           go_wp2_with fail
           refine(zero_c u2.tx hp12 (by omega) hx12 hO12 hm12 hll).mono ?_;rintro e w13⟨hF,hr⟩;clear hm12 hO12;have hx13:=hx12.later hF;have hA13:=Bk hF hA12;have hR13:=Bk hF hR12;have hN13:=Bk hF hN12;have hs13:=hF.size;have hX13:=hX12.trans (.below hF);have hp13:=hp12.below hF;clear hx12 hA12 hR12 hN12 hX12 hp12 c_hA_0;clear hF;cases hm:zero x l with
           | none =>
            rw[hm]at hr;obtain⟨T9,v9,rfl⟩:=hr;have c_hN_0:=Qaa (o:=0) hN13 rfl;have f_hN:=Qae hN13 0;have lt_hN:=Qad hN13;have lt_hR:=Qad hR13;have c_hR_0:=Qaa (o:=0) hR13 rfl;have f_hR:=Qae hR13 0;have HR:=Hi (show access L E x (u::q)=none by rw[HACC.out,HMT.out,hm]);clear hm;have HB:=Hi hR13;clear hR13 hN13;go_wp2;refine QaM (R:=w.heap.size+1) _ (by kernel_rfl) rfl rfl rfl rfl (Qac (o:=0) (Qag HB.out (by omega) _) _) ?_
            exact QaW HR.out ((hX13.set (p:=⟨w11.heap.size,0,none⟩) (.inr (show _≤w11.heap.size by omega)) _).set (p:=⟨w.heap.size+1,0,none⟩) (.inr (show _≤w.heap.size+1 by omega)) _)
           | some z =>
            rw[hm]at hr;obtain⟨T9,v9,rfl,hz13⟩:=hr;have HR:=Hi (show access L E x (u::q)=some (some (z,adv (u4::q4)))by rw[HACC.out,HMT.out,hm]);clear hm;have c_hN_0:=Qaa (o:=0) hN13 rfl;have f_hN:=Qae hN13 0;have lt_hN:=Qad hN13;have lt_hR:=Qad hR13
            go_upto_region 36 with(fail)
            obtain⟨w14,hw⟩:∃w14,w13.setCell ⟨w11.heap.size,0,none⟩ (.iface T9 v9)=w14:=⟨_,rfl⟩
            rw[hw];have hz14:NodeIs w14 base _ _:=hw▸hz13.store (o:=0) hN13 (by decide) (.iface T9 v9);have hA14:w14.heap[w.heap.size]? =some (.cells #[.iface T v] 299 (0,0)):=hw▸Qag (o:=0) hA13 (by omega) (.iface T9 v9);have hR14:w14.heap[w.heap.size+1]? =some (.cells #[.nilIface] 299 (0,0)):=hw▸Qag (o:=0) hR13 (by omega) (.iface T9 v9);have hN14:w14.heap[w11.heap.size]? =some (.cells #[.iface T9 v9] 299 (0,0)):=hw▸Qac (o:=0) hN13 (.iface T9 v9)
            have hX14:Ext (·=bp) w w14:=hw▸hX13.set (p:=⟨w11.heap.size,0,none⟩) (.inr (show w.heap.size≤w11.heap.size by omega)) (.iface T9 v9);have hs14:w13.heap.size≤w14.heap.size:=by rw[←hw];simp
            have hp14:PS w14 bp base _:=hw▸hp13.set (o:=0) (show base≤w11.heap.size by omega) (.iface T9 v9);clear hz13 hA13 hR13 hN13 hX13 hp13 c_hN_0 f_hN lt_hN lt_hR hw;have c_hN_0:=Qaa (o:=0) hN14 rfl;have c_hR_0:=Qaa (o:=0) hR14 rfl;have f_hR:=Qae hR14 0;have lt_hR:=Qad hR14;have HR:=Hi (show access L E x (u::q)=some (some (z,adv (u4::q4)))from HR.out);have HB:=Hi hR14;clear hR14;go_wp2;refine QaM (R:=w.heap.size+1) _ (by kernel_rfl) rfl rfl rfl rfl (Qac (o:=0) HB.out _) ?_
            exact Qbl HR.out (hX14.set (p:=⟨w.heap.size+1,0,none⟩) (.inr (show _≤w.heap.size+1 by omega)) _) (hp14.set (o:=0) (by omega) _) (NodeIs.store (o:=0) (hz14) HB.out (by decide) _)
          | false =>
           have ht_isEmpty:=ht;clear ht;have HMT:=Hi (show method L u2.tx x l=(match(extM u2.tx).map (·.2)with
            | some true=>some (.call u2.tx (x::l))
            | _=>none)by unfold Pg.method;simp only[ht_contains,ht_containsAll,ht_containsAny,ht_hasTag,ht_getTag,ht_isEmpty,Xf,if_false,HEX.out];rcases extM u2.tx with _ | ⟨_,_ | _⟩<;>rfl)
           go_wp2_with fail
           refine(Qfw _).mono ?_;rintro e w13⟨rfl,hw⟩;have hF:Below w12.heap.size w12 w13:=hw▸Qab _ _;have hmap:w13.heap[w12.heap.size]? =some (.map (extE 22) 22):=hw▸Xa _ _;clear hw;have hx13:=hx12.later hF;have hm13:=hm12.later hF;have hA13:=Bk hF hA12;have hR13:=Bk hF hR12;have hN13:=Bk hF hN12;have hO13:=Qaj (S:=fun _=>False) hO12 (.below hF) (fun _ h=>h.elim);have hs13:=hF.size;have hX13:=hX12.trans (.below hF)
           have hp13:=hp12.below hF;clear hx12 hm12 hA12 hR12 hN12 hO12 hX12 hp12;clear hF;have hlk:=Qfx hmap u2.tx;clear hmap;unfold extV at hlk;cases hem:extM u2.tx with
           | none =>
            rw[hem]at hlk;simp only at hlk;have HR0:=Hi (show access L E x (u::q)=none by rw[HACC.out,HMT.out,hem];rfl);clear hem
            go_upto_region 19 with(fail)
            obtain⟨w14,hw⟩:∃w14,w13.alloc (.cells #[.int .i64 0,.bool false] 420)=w14:=⟨_,rfl⟩
            rw[hw];have hF:Below w13.heap.size w13 w14:=by rw[←hw];exact Qab _ _
            have hB14:w14.heap[w13.heap.size]? =some (.cells #[.int .i64 0,.bool false] 420 (0,0)):=by rw[←hw];exact Xa _ _
            have hs14:w13.heap.size+1≤w14.heap.size:=by rw[←hw];simp
            clear hw;have hx14:=hx13.later hF;have hm14:=hm13.later hF;have hA14:=Bk hF hA13;have hR14:=Bk hF hR13;have hN14:=Bk hF hN13;have hO14:=Qaj (S:=fun _=>False) hO13 (.below hF) (fun _ h=>h.elim);have hX14:=hX13.trans (.below hF);have hp14:=hp13.below hF;clear hx13 hm13 hA13 hR13 hN13 hO13 hX13 hp13;clear hF;clear hlk
            go_wp2_with fail
            refine(Qay (hp14.below (Qab _ _)) _ _).mono ?_;rintro e w15⟨T9,v9,rfl,hF0⟩;have hF:=(Qab w14 (.cells #[.iface 9 (.string u2.tx)] 20)).trans (hF0.mono (by simp));clear hF0;have hx15:=hx14.later hF;have hm15:=hm14.later hF;have hA15:=Bk hF hA14;have hR15:=Bk hF hR14;have hN15:=Bk hF hN14;have hB15:=Bk hF hB14;have hO15:=Qaj (S:=fun _=>False) hO14 (.below hF) (fun _ h=>h.elim);have hs15:=hF.size
            have hX15:=hX14.trans (.below hF);have hp15:=hp14.below hF;clear hx14 hm14 hA14 hR14 hN14 hB14 hO14 hX14 hp14;clear hF;have c_hR_0:=Qaa (o:=0) hR15 rfl;have f_hR:=Qae hR15 0;have lt_hR:=Qad hR15;have HR:=Hi (HR0.out);have HB:=Hi hR15;clear hR15;go_wp2;refine QaM (R:=w.heap.size+1) _ (by kernel_rfl) rfl rfl rfl rfl (Qac (o:=0) HB.out _) ?_;exact QaW HR.out (hX15.set (p:=⟨w.heap.size+1,0,none⟩) (.inr (show _≤w.heap.size+1 by omega)) _)
           | some pe =>
            obtain⟨ne,me⟩:=pe;rw[hem]at hlk;simp only at hlk;cases me with
            | false =>
             have HR0:=Hi (show access L E x (u::q)=none by rw[HACC.out,HMT.out,hem];rfl);clear hem
             go_upto_region 19 with(fail)
             obtain⟨w14,hw⟩:∃w14,w13.alloc (.cells #[.int .i64 ne,.bool false] 420)=w14:=⟨_,rfl⟩
             rw[hw];have hF:Below w13.heap.size w13 w14:=by rw[←hw];exact Qab _ _
             have hB14:w14.heap[w13.heap.size]? =some (.cells #[.int .i64 ne,.bool false] 420 (0,0)):=by rw[←hw];exact Xa _ _
             have hs14:w13.heap.size+1≤w14.heap.size:=by rw[←hw];simp
             clear hw;have hx14:=hx13.later hF;have hm14:=hm13.later hF;have hA14:=Bk hF hA13;have hR14:=Bk hF hR13;have hN14:=Bk hF hN13;have hO14:=Qaj (S:=fun _=>False) hO13 (.below hF) (fun _ h=>h.elim);have hX14:=hX13.trans (.below hF);have hp14:=hp13.below hF;clear hx13 hm13 hA13 hR13 hN13 hO13 hX13 hp13;clear hF;clear hlk;have c_hB_1:=Qaa (o:=1) hB14 rfl
             go_wp2_with fail
             refine(Qay (hp14.below (Qab _ _)) _ _).mono ?_;rintro e w15⟨T9,v9,rfl,hF0⟩;have hF:=(Qab w14 (.cells #[.iface 9 (.string u2.tx)] 20)).trans (hF0.mono (by simp));clear hF0;have hx15:=hx14.later hF;have hm15:=hm14.later hF;have hA15:=Bk hF hA14;have hR15:=Bk hF hR14;have hN15:=Bk hF hN14;have hB15:=Bk hF hB14;have hO15:=Qaj (S:=fun _=>False) hO14 (.below hF) (fun _ h=>h.elim);have hs15:=hF.size
             have hX15:=hX14.trans (.below hF);have hp15:=hp14.below hF;clear hx14 hm14 hA14 hR14 hN14 hB14 hO14 hX14 hp14 c_hB_1;clear hF;have c_hR_0:=Qaa (o:=0) hR15 rfl;have f_hR:=Qae hR15 0;have lt_hR:=Qad hR15;have HR:=Hi (HR0.out);have HB:=Hi hR15;clear hR15;go_wp2;refine QaM (R:=w.heap.size+1) _ (by kernel_rfl) rfl rfl rfl rfl (Qac (o:=0) HB.out _) ?_;exact QaW HR.out (hX15.set (p:=⟨w.heap.size+1,0,none⟩) (.inr (show _≤w.heap.size+1 by omega)) _)
            | true =>
             have HR:=Hi (show access L E x (u::q)=some (some (.call u2.tx (x::l),adv (u4::q4)))by rw[HACC.out,HMT.out,hem];rfl);clear hem
             go_upto_region 19 with(fail)
             obtain⟨w14,hw⟩:∃w14,w13.alloc (.cells #[.int .i64 ne,.bool true] 420)=w14:=⟨_,rfl⟩
             rw[hw];have hF:Below w13.heap.size w13 w14:=by rw[←hw];exact Qab _ _
             have hB14:w14.heap[w13.heap.size]? =some (.cells #[.int .i64 ne,.bool true] 420 (0,0)):=by rw[←hw];exact Xa _ _
             have hs14:w13.heap.size+1≤w14.heap.size:=by rw[←hw];simp
             clear hw;have hx14:=hx13.later hF;have hm14:=hm13.later hF;have hA14:=Bk hF hA13;have hR14:=Bk hF hR13;have hN14:=Bk hF hN13;have hO14:=Qaj (S:=fun _=>False) hO13 (.below hF) (fun _ h=>h.elim);have hX14:=hX13.trans (.below hF);have hp14:=hp13.below hF;clear hx13 hm13 hA13 hR13 hN13 hO13 hX13 hp13;clear hF;clear hlk;have c_hB_1:=Qaa (o:=1) hB14 rfl;have c_hA_0:=Qaa (o:=0) hA14 rfl
             go_wp2_with fail
             refine(n290_c (B:=w9.heap.size) u2.tx (by omega) (by omega) hx14 hO14 hm14 hll).mono ?_;rintro e w15⟨hF,T9,v9,rfl,hz15⟩;clear hm14 hO14;have hx15:=hx14.later hF;have hA15:=Bk hF hA14;have hR15:=Bk hF hR14;have hN15:=Bk hF hN14;have hB15:=Bk hF hB14;have hs15:=hF.size;have hX15:=hX14.trans (.below hF);have hp15:=hp14.below hF;clear hx14 hA14 hR14 hN14 hB14 hX14 hp14 c_hB_1 c_hA_0;clear hF
             obtain⟨z,hzz⟩:∃z,z=Ex.call u2.tx (x::l):=⟨_,rfl⟩
             rw[←hzz]at hz15 HR;clear hzz;have c_hN_0:=Qaa (o:=0) hN15 rfl;have f_hN:=Qae hN15 0;have lt_hN:=Qad hN15;have lt_hR:=Qad hR15
             go_upto_region 36 with(fail)
             obtain⟨w16,hw⟩:∃w16,w15.setCell ⟨w11.heap.size,0,none⟩ (.iface T9 v9)=w16:=⟨_,rfl⟩
             rw[hw];have hz16:NodeIs w16 base _ _:=hw▸hz15.store (o:=0) hN15 (by decide) (.iface T9 v9);have hA16:w16.heap[w.heap.size]? =some (.cells #[.iface T v] 299 (0,0)):=hw▸Qag (o:=0) hA15 (by omega) (.iface T9 v9);have hR16:w16.heap[w.heap.size+1]? =some (.cells #[.nilIface] 299 (0,0)):=hw▸Qag (o:=0) hR15 (by omega) (.iface T9 v9);have hN16:w16.heap[w11.heap.size]? =some (.cells #[.iface T9 v9] 299 (0,0)):=hw▸Qac (o:=0) hN15 (.iface T9 v9)
             have hB16:w16.heap[w13.heap.size]? =some (.cells #[.int .i64 ne,.bool true] 420 (0,0)):=hw▸Qag (o:=0) hB15 (by omega) (.iface T9 v9);have hX16:Ext (·=bp) w w16:=hw▸hX15.set (p:=⟨w11.heap.size,0,none⟩) (.inr (show w.heap.size≤w11.heap.size by omega)) (.iface T9 v9);have hs16:w15.heap.size≤w16.heap.size:=by rw[←hw];simp
             have hp16:PS w16 bp base _:=hw▸hp15.set (o:=0) (show base≤w11.heap.size by omega) (.iface T9 v9);clear hz15 hA15 hR15 hN15 hB15 hX15 hp15 c_hN_0 f_hN lt_hN lt_hR hw;have c_hN_0:=Qaa (o:=0) hN16 rfl;have c_hR_0:=Qaa (o:=0) hR16 rfl;have f_hR:=Qae hR16 0;have lt_hR:=Qad hR16;have HR:=Hi (show access L E x (u::q)=some (some (z,adv (u4::q4)))from HR.out);have HB:=Hi hR16;clear hR16;go_wp2;refine QaM (R:=w.heap.size+1) _ (by kernel_rfl) rfl rfl rfl rfl (Qac (o:=0) HB.out _) ?_
             exact Qbl HR.out (hX16.set (p:=⟨w.heap.size+1,0,none⟩) (.inr (show _≤w.heap.size+1 by omega)) _) (hp16.set (o:=0) (by omega) _) (NodeIs.store (o:=0) (hz16) HB.out (by decide) _)
def EeRel(m:Nat→ByteArray→Toks→Option (Ex×Toks))(bp base N R:Nat)(w:World)(Rm:Option (Ex×Toks))(s:Value)(wr:World):Prop :=
 ∃g r vs,s=.string r∧m g r vs=Rm∧vs.length<g∧Wf vs∧vs.length≤N∧PS wr bp base vs∧wr.heap[R]? =some (.cells #[.nilIface] 299 (0,0))∧Ext (·=bp) w wr∧r.size+vs.length*1000002≤2000000000000
theorem entExt_w{L:Lex}(hL:LexC L)(hext:∀s,L.ext s=(extM s).map (·.2)){E:Toks→Option (Ex×Toks)}{bp base N:Nat}(hE:Sh E)(hX:Qg8 (⟨#[41]⟩:ByteArray) (Qbr E [41]) bp base N)
  (w:World)(ts:Toks)(r0:ByteArray)(g0:Nat)(hp:PS w bp base ts)(hwf:Wf ts)(hg0:ts.length<g0)(hN:ts.length≤N)(hbs:base≤w.heap.size)(hz:r0.size+ts.length*1000002≤2000000000000) :
  Calls prog 273 #[.pointer (some ⟨bp,0,none⟩),.string r0] w (QfY bp base w (Qa1 L E g0 r0 ts)):=by
 have hbb:=hp.hbp;have h15:=hp.h15;have hlen:=hp.len;have HL:=Hi hX;have HE:=Hi hE;have HEX:=Hi hext;clear hX hE hext;go_enter func273,ntmps273
 go_upto_region 1 with(fail)
 obtain⟨w1,hw⟩:∃w1,(w.alloc (.cells #[.nilIface] 299))=w1:=⟨_,rfl⟩
 rw[hw];have hF:Below w.heap.size w w1:=by rw[←hw];exact Qab w _
 have hR1:w1.heap[w.heap.size]? =some (.cells #[.nilIface] 299 (0,0)):=by rw[←hw];exact Qah (by simp) _
 have hs1:w.heap.size+1≤w1.heap.size:=by rw[←hw];simp
 clear hw;have hX1:Ext (·=bp) w w1:=.below hF;have hp1:=hp.below hF;clear hp;clear hF
 go_loopw [1] (fun s wr=>EeRel (Qa1 L E) bp base ts.length (w.heap.size) w (Qa1 L E g0 r0 ts) s wr) (fun _ wr=>left wr bp)
 case atStart=>exact⟨g0,r0,ts,rfl,rfl,hg0,hwf,Xb _,hp1,hR1,hX1,hz⟩
 case round =>
  clear hp1 hR1 hX1 hwf hg0 hz;obtain⟨wo,rfl⟩:∃wo:World,wo=wr:=⟨_,rfl⟩
  obtain⟨g,r1,vs,rfl,hg,hgl,hvw,hvN,hp_wo,hR_wo,hX_wo,hzr⟩:=hrel;have HG:=Hi hg;clear hg;cases g with
  | zero=>omega
  | succ g =>
  obtain⟨u,q,rfl⟩:∃u q,vs=u::q:=by cases vs with | nil=>exact absurd rfl hp_wo.ne | cons u q=>exact⟨u,q,rfl⟩
  have HLF:=Hi hp_wo.left;have hsz_wo:=hX_wo.size;have ltR:=Qad hR_wo;have hul:(u::q).length≤1000000:=hp_wo.len
  go_wp2_with fail
  refine(Qaz hp_wo).mono ?_;rintro e w2⟨rfl,hp2,hF⟩;have hR2:=hF.heap (by omega) hR_wo;have hs2:=hF.size;have hX2:=hX_wo.trans hF;clear hR_wo hX_wo hp_wo;clear hF
  go_upto_region 2 with(fail)
  obtain⟨w3,hw⟩:∃w3,w2.alloc (.cells u.row 122)=w3:=⟨_,rfl⟩
  rw[hw];have hF:Below w2.heap.size w2 w3:=by rw[←hw];exact Qab _ _
  have hK3:w3.heap[w2.heap.size]? =some (.cells u.row 122 (0,0)):=by rw[←hw];exact Xa _ _
  have hs3:w2.heap.size+1≤w3.heap.size:=by rw[←hw];simp
  clear hw;have hR3:=Bk hF hR2;have hX3:=hX2.trans (.below hF);have hp3:=hp2.below hF;clear hR2 hX2 hp2;clear hF;have c_hK_5:=Qaa (o:=5) hK3 rfl;have hwa:=hvw.adv;cases ht:(u.tx.toList==[58,58])with
  | true =>
   have hla:(adv (u::q)).length<(u::q).length:=Qax hvw (s:=[58,58]) ht (by decide);obtain⟨u2,q2,ha2⟩:∃a b,adv (u::q)=a::b:=by
    cases h:adv (u::q)with
    | nil=>rw[h]at hwa;exact absurd rfl hwa.ne
    | cons a b=>exact⟨a,b,rfl⟩
   rw[ha2]at hwa hla hp3;have HA2:=Hi ha2;clear ha2;have htz:=hp3.sz
   go_wp2_with fail
   refine(Qaz hp3).mono ?_;rintro e w4⟨rfl,hp4,hF⟩;have hR4:=hF.heap (by omega) hR3;have hK4:=hF.heap (by omega) hK3;have hs4:=hF.size;have hX4:=hX3.trans hF;clear hR3 hK3 hX3 hp3 c_hK_5;clear hF;have hlb:(adv (u2::q2)).length≤(u2::q2).length:=(Qam hwa).len;clear hK4
   go_upto_region 7 with(fail)
   obtain⟨w5,hw⟩:∃w5,w4.alloc (.cells u2.row 122)=w5:=⟨_,rfl⟩
   rw[hw];have hF:Below w4.heap.size w4 w5:=by rw[←hw];exact Qab _ _
   have hK25:w5.heap[w4.heap.size]? =some (.cells u2.row 122 (0,0)):=by rw[←hw];exact Xa _ _
   have hs5:w4.heap.size+1≤w5.heap.size:=by rw[←hw];simp
   clear hw;have hR5:=Bk hF hR4;have hX5:=hX4.trans (.below hF);have hp5:=hp4.below hF;clear hR4 hX4 hp4;clear hF;obtain⟨c_hK2_0,c_hK2_1,c_hK2_2,c_hK2_3,c_hK2_4,c_hK2_5⟩:=Cl6 hK25 rfl rfl rfl rfl rfl rfl
   go_wp2_with fail
   refine(Qbd u2 _).mono ?_;rintro e w6⟨rfl,hF⟩;have hR6:=Bk hF hR5;have hK26:=Bk hF hK25;have hs6:=hF.size;have hX6:=hX5.trans (.below hF);have hp6:=hp5.below hF;clear hR5 hK25 hX5 hp5 c_hK2_0 c_hK2_1 c_hK2_2 c_hK2_3 c_hK2_4 c_hK2_5;clear hF;cases hi:(u2.ty==1)with
   | true =>
    have c_hK2_5:=Qaa (o:=5) hK26 rfl;have e2:(⟨#[58,58]⟩:ByteArray).size=2:=rfl;have HGG:=Hi (show Qa1 L E g (r1++(⟨#[58,58]⟩:ByteArray)++u2.tx) (adv (u2::q2))=Qa1 L E g0 r0 ts by rw[←HG.out,Qa1];simp only[tx,Xf,if_false,if_true,ty,hd,ht,HA2.out,hi]);go_wp2;go_roundw
    case rel=>exact⟨g,_,_,rfl,HGG.out,by omega,hwa.adv,by omega,hp6,hR6,hX6,by rw[ByteArray.size_append,ByteArray.size_append,e2];omega⟩
    case measure =>
     rw[hp6.left,HLF.out];omega
   | false =>
    obtain⟨c_hK2_0,c_hK2_1,c_hK2_2,c_hK2_3,c_hK2_4,c_hK2_5⟩:=Cl6 hK26 rfl rfl rfl rfl rfl rfl
    go_wp2_with fail
    refine(QbY u2 _).mono ?_;rintro e w7⟨rfl,hF⟩;have hR7:=Bk hF hR6;have hK27:=Bk hF hK26;have hs7:=hF.size;have hX7:=hX6.trans (.below hF);have hp7:=hp6.below hF;clear hR6 hK26 hX6 hp6 c_hK2_0 c_hK2_1 c_hK2_2 c_hK2_3 c_hK2_4 c_hK2_5;clear hF;cases hj:(u2.ty==4)with
    | false =>
     go_wp2_with fail
     refine(Qay hp7 _ _).mono ?_;rintro e w8⟨T9,v9,rfl,hF⟩;have hR8:=Bk hF hR7;have hK28:=Bk hF hK27;have hs8:=hF.size;have hX8:=hX7.trans (.below hF);have hp8:=hp7.below hF;clear hR7 hK27 hX7 hp7;clear hF;have c_hR_0:=Qaa (o:=0) hR8 rfl;have f_hR:=Qae hR8 0;have lt_hR:=Qad hR8;have HR:=Hi (show Qa1 L E g0 r0 ts=none by rw[←HG.out,Qa1];simp only[tx,Xf,if_false,if_true,ty,hd,ht,HA2.out,hi,hj]);have HB:=Hi hR8;clear hR8
     go_wp2;refine Qai (R:=w.heap.size) _ 4 5 (by kernel_rfl) rfl rfl rfl (Qac (o:=0) HB.out _) ?_;exact(Qak HR.out (hX8.set (p:=⟨w.heap.size,0,none⟩) (.inr (show _≤w.heap.size by omega)) _))
    | true =>
     obtain⟨c_hK2_0,c_hK2_1,c_hK2_2,c_hK2_3,c_hK2_4,c_hK2_5⟩:=Cl6 hK27 rfl rfl rfl rfl rfl rfl
     go_wp2_with fail
     refine(hL.str u2 _ hp7.g (by omega) htz hp7.hbs).mono ?_;rintro e w8⟨hF,hr⟩;have hR8:=Bk hF hR7;have hK28:=Bk hF hK27;have hs8:=hF.size;have hX8:=hX7.trans (.below hF);have hp8:=hp7.below hF;clear hR7 hK27 hX7 hp7 c_hK2_0 c_hK2_1 c_hK2_2 c_hK2_3 c_hK2_4 c_hK2_5;clear hF;cases hm:L.str u2.tx with
     | none =>
      rw[hm]at hr;obtain⟨s9,T9,v9,rfl⟩:=hr;have c_hR_0:=Qaa (o:=0) hR8 rfl;have f_hR:=Qae hR8 0;have lt_hR:=Qad hR8;have HR:=Hi (show Qa1 L E g0 r0 ts=none by rw[←HG.out,Qa1];simp only[tx,Xf,if_false,if_true,ty,hd,ht,HA2.out,hi,hj,hm]);have HB:=Hi hR8;clear hR8;go_wp2;refine Qai (R:=w.heap.size) _ 4 5 (by kernel_rfl) rfl rfl rfl (Qac (o:=0) HB.out _) ?_;exact(Qak HR.out (hX8.set (p:=⟨w.heap.size,0,none⟩) (.inr (show _≤w.heap.size by omega)) _))
     | some s =>
      rw[hm]at hr;obtain⟨rfl,hsz⟩:=hr;have HM:=Hi hm;clear hm
      go_wp2_with fail
      refine(n298_c _ _ _).mono ?_;rintro e w9⟨rfl,hF⟩;have hR9:=Bk hF hR8;have hK29:=Bk hF hK28;have hs9:=hF.size;have hX9:=hX8.trans (.below hF);have hp_w9:=hp8.below hF;clear hR8 hK28 hX8 hp8;clear hF;have c_hR_0:=Qaa (o:=0) hR9 rfl;have f_hR:=Qae hR9 0;have lt_hR:=Qad hR9;have HR:=Hi (show Qa1 L E g0 r0 ts=some (.val (.uid r1 s),adv (u2::q2))by rw[←HG.out,Qa1];simp only[tx,Xf,if_false,if_true,ty,hd,ht,HA2.out,hi,hj,HM.out])
      have HB:=Hi hR9;clear hR9;go_wp2;refine Qai (R:=w.heap.size) _ 4 5 (by kernel_rfl) rfl rfl rfl (Qac (o:=0) HB.out _) ?_;exact(Qal HR.out (hX9.set (p:=⟨w.heap.size,0,none⟩) (.inr (show _≤w.heap.size by omega)) _) (hp_w9.set (o:=0) (by omega) _) (NodeIs.store (o:=0) (.val (.uid r1 s)) HB.out (by decide) _))
  | false =>
   have hnc:=ht;clear ht;cases ht:(u.tx.toList==[40])with
   | false =>
    go_wp2_with fail
    refine(Qay hp3 _ _).mono ?_;rintro e w4⟨T9,v9,rfl,hF⟩;have hR4:=Bk hF hR3;have hK4:=Bk hF hK3;have hs4:=hF.size;have hX4:=hX3.trans (.below hF);have hp4:=hp3.below hF;clear hR3 hK3 hX3 hp3 c_hK_5;clear hF;have c_hR_0:=Qaa (o:=0) hR4 rfl;have f_hR:=Qae hR4 0;have lt_hR:=Qad hR4;have HR:=Hi (show Qa1 L E g0 r0 ts=none by rw[←HG.out,Qa1];simp only[tx,Xf,if_false,if_true,ty,hd,hnc,ht]);have HB:=Hi hR4;clear hR4
    go_wp2;refine Qai (R:=w.heap.size) _ 4 5 (by kernel_rfl) rfl rfl rfl (Qac (o:=0) HB.out _) ?_;exact(Qak HR.out (hX4.set (p:=⟨w.heap.size,0,none⟩) (.inr (show _≤w.heap.size by omega)) _))
   | true =>
    have hla:(adv (u::q)).length<(u::q).length:=Qax hvw (s:=[40]) ht (by decide);have HACC:=Hi (show Qa1 L E g0 r0 ts=(match(extM r1).map (·.2)with
     | some false=>(match Qbr E [41] (adv (u::q))with
      | none=>none
      | some (l,us)=>some (.call r1 l,adv us))
     | _=>none)by
     rw[←HG.out,Qa1];simp only[tx,Xf,if_false,if_true,ty,hd,hnc,ht,HEX.out];rcases extM r1 with _ | ⟨_,_ | _⟩<;>try rfl)
    go_wp2_with fail
    refine(Qfw _).mono ?_;rintro e w4⟨rfl,hw⟩;have hF:Below w3.heap.size w3 w4:=hw▸Qab _ _;have hmap:w4.heap[w3.heap.size]? =some (.map (extE 22) 22):=hw▸Xa _ _;clear hw;have hR4:=Bk hF hR3;have hK4:=Bk hF hK3;have hs4:=hF.size;have hX4:=hX3.trans (.below hF);have hp4:=hp3.below hF;clear hR3 hK3 hX3 hp3 c_hK_5;clear hF;have hlk:=Qfx hmap r1;clear hmap;unfold extV at hlk;cases hem:extM r1 with
    | none =>
     rw[hem]at hlk;simp only at hlk;have HR0:=Hi (show Qa1 L E g0 r0 ts=none by rw[HACC.out,hem];rfl);clear hem
     go_upto_region 16 with(fail)
     obtain⟨w5,hw⟩:∃w5,w4.alloc (.cells #[.int .i64 0,.bool false] 420)=w5:=⟨_,rfl⟩
     rw[hw];have hF:Below w4.heap.size w4 w5:=by rw[←hw];exact Qab _ _
     have hB5:w5.heap[w4.heap.size]? =some (.cells #[.int .i64 0,.bool false] 420 (0,0)):=by rw[←hw];exact Xa _ _
     have hs5:w4.heap.size+1≤w5.heap.size:=by rw[←hw];simp
     clear hw;have hR5:=Bk hF hR4;have hK5:=Bk hF hK4;have hX5:=hX4.trans (.below hF);have hp5:=hp4.below hF;clear hR4 hK4 hX4 hp4;clear hF;clear hlk
     go_wp2_with fail
     refine(Qay (hp5.below (Qab _ _)) _ _).mono ?_;rintro e w6⟨T9,v9,rfl,hF0⟩;have hF:=(Qab w5 (.cells #[.iface 9 (.string r1)] 20)).trans (hF0.mono (by simp));clear hF0;have hR6:=Bk hF hR5;have hK6:=Bk hF hK5;have hB6:=Bk hF hB5;have hs6:=hF.size;have hX6:=hX5.trans (.below hF);have hp6:=hp5.below hF;clear hR5 hK5 hB5 hX5 hp5;clear hF;have c_hR_0:=Qaa (o:=0) hR6 rfl;have f_hR:=Qae hR6 0;have lt_hR:=Qad hR6
     have HR:=Hi (HR0.out);have HB:=Hi hR6;clear hR6;go_wp2;refine Qai (R:=w.heap.size) _ 4 5 (by kernel_rfl) rfl rfl rfl (Qac (o:=0) HB.out _) ?_;exact(Qak HR.out (hX6.set (p:=⟨w.heap.size,0,none⟩) (.inr (show _≤w.heap.size by omega)) _))
    | some pe =>
     obtain⟨ne,me⟩:=pe;rw[hem]at hlk;simp only at hlk;cases me with
     | true =>
      have HR0:=Hi (show Qa1 L E g0 r0 ts=none by rw[HACC.out,hem];rfl);clear hem
      go_upto_region 16 with(fail)
      obtain⟨w5,hw⟩:∃w5,w4.alloc (.cells #[.int .i64 ne,.bool true] 420)=w5:=⟨_,rfl⟩
      rw[hw];have hF:Below w4.heap.size w4 w5:=by rw[←hw];exact Qab _ _
      have hB5:w5.heap[w4.heap.size]? =some (.cells #[.int .i64 ne,.bool true] 420 (0,0)):=by rw[←hw];exact Xa _ _
      have hs5:w4.heap.size+1≤w5.heap.size:=by rw[←hw];simp
      clear hw;have hR5:=Bk hF hR4;have hK5:=Bk hF hK4;have hX5:=hX4.trans (.below hF);have hp5:=hp4.below hF;clear hR4 hK4 hX4 hp4;clear hF;clear hlk;have c_hB_1:=Qaa (o:=1) hB5 rfl
      go_wp2_with fail
      refine(Qay (hp5.below (Qab _ _)) _ _).mono ?_;rintro e w6⟨T9,v9,rfl,hF0⟩;have hF:=(Qab w5 (.cells #[.iface 9 (.string r1)] 20)).trans (hF0.mono (by simp));clear hF0;have hR6:=Bk hF hR5;have hK6:=Bk hF hK5;have hB6:=Bk hF hB5;have hs6:=hF.size;have hX6:=hX5.trans (.below hF);have hp6:=hp5.below hF;clear hR5 hK5 hB5 hX5 hp5 c_hB_1;clear hF;have c_hR_0:=Qaa (o:=0) hR6 rfl;have f_hR:=Qae hR6 0;have lt_hR:=Qad hR6
      have HR:=Hi (HR0.out);have HB:=Hi hR6;clear hR6;go_wp2;refine Qai (R:=w.heap.size) _ 4 5 (by kernel_rfl) rfl rfl rfl (Qac (o:=0) HB.out _) ?_;exact(Qak HR.out (hX6.set (p:=⟨w.heap.size,0,none⟩) (.inr (show _≤w.heap.size by omega)) _))
     | false =>
      have HR2:=Hi (show Qa1 L E g0 r0 ts=(match Qbr E [41] (adv (u::q))with
        | none=>none
        | some (l,us)=>some (.call r1 l,adv us))by rw[HACC.out,hem];rfl)
      clear hem
      go_upto_region 16 with(fail)
      obtain⟨w5,hw⟩:∃w5,w4.alloc (.cells #[.int .i64 ne,.bool false] 420)=w5:=⟨_,rfl⟩
      rw[hw];have hF:Below w4.heap.size w4 w5:=by rw[←hw];exact Qab _ _
      have hB5:w5.heap[w4.heap.size]? =some (.cells #[.int .i64 ne,.bool false] 420 (0,0)):=by rw[←hw];exact Xa _ _
      have hs5:w4.heap.size+1≤w5.heap.size:=by rw[←hw];simp
      clear hw;have hR5:=Bk hF hR4;have hK5:=Bk hF hK4;have hX5:=hX4.trans (.below hF);have hp5:=hp4.below hF;clear hR4 hK4 hX4 hp4;clear hF;clear hlk;have c_hB_1:=Qaa (o:=1) hB5 rfl
      go_wp2_with fail
      refine(HL.out _ _ hp5 hwa (by omega) (by omega)).mono ?_;rintro e w6⟨hF,hr⟩;have hR6:=hF.heap (by omega) hR5;have hK6:=hF.heap (by omega) hK5;have hB6:=hF.heap (by omega) hB5;have hs6:=hF.size;have hX6:=hX5.trans hF;clear hR5 hK5 hB5 hX5 c_hB_1;clear hF;cases hm:Qbr E [41] (adv (u::q))with
      | none =>
       rw[hm]at hr;obtain⟨s9,T9,v9,rfl⟩:=hr;have c_hR_0:=Qaa (o:=0) hR6 rfl;have f_hR:=Qae hR6 0;have lt_hR:=Qad hR6;have HR:=Hi (show Qa1 L E g0 r0 ts=none by rw[HR2.out,hm]);have HB:=Hi hR6;clear hR6;go_wp2;refine Qai (R:=w.heap.size) _ 4 5 (by kernel_rfl) rfl rfl rfl (Qac (o:=0) HB.out _) ?_;exact(Qak HR.out (hX6.set (p:=⟨w.heap.size,0,none⟩) (.inr (show _≤w.heap.size by omega)) _))
      | some p2 =>
       obtain⟨l,us⟩:=p2;rw[hm]at hr;obtain⟨s9,vals,rfl,hp9,hO6,hm6,hll⟩:=hr;have HR3:=Hi (show Qa1 L E g0 r0 ts=some (.call r1 l,adv us)by rw[HR2.out,hm]);clear hm;obtain⟨u4,q4,rfl⟩:∃u q,us=u::q:=by cases us with | nil=>exact absurd rfl hp9.ne | cons u q=>exact⟨u,q,rfl⟩
       go_wp2_with fail
       refine(Qaz hp9).mono ?_;rintro e w7⟨rfl,hp7,hF⟩;have hm7:=hm6.keep hF (fun d hd=>by omega);have hR7:=hF.heap (by omega) hR6;have hK7:=hF.heap (by omega) hK6;have hB7:=hF.heap (by omega) hB6;have hO7:=Qaj hO6 hF (fun d hd=>by omega);have hs7:=hF.size;have hX7:=hX6.trans hF;clear hm6 hR6 hK6 hB6 hO6 hX6 hp9;clear hF
       go_wp2_with fail
       refine(n299_c r1 (by omega) hO7 hm7 hll).mono ?_;rintro e w8⟨hF,T9,v9,rfl,hz8⟩;clear hm7 hO7;have hR8:=Bk hF hR7;have hK8:=Bk hF hK7;have hB8:=Bk hF hB7;have hs8:=hF.size;have hX8:=hX7.trans (.below hF);have hp8:=hp7.below hF;clear hR7 hK7 hB7 hX7 hp7;clear hF;have c_hR_0:=Qaa (o:=0) hR8 rfl;have f_hR:=Qae hR8 0;have lt_hR:=Qad hR8;have HR:=Hi (HR3.out);have HB:=Hi hR8;clear hR8;go_wp2;refine Qai (R:=w.heap.size) _ 4 5 (by kernel_rfl) rfl rfl rfl (Qac (o:=0) HB.out _) ?_
       exact(Qal HR.out (hX8.set (p:=⟨w.heap.size,0,none⟩) (.inr (show _≤w.heap.size by omega)) _) (hp8.set (o:=0) (by omega) _) (NodeIs.store (o:=0) (hz8) HB.out (by decide) _))
theorem QeU{P:Program}{fn:Func}{a u v:Tmp}{t:TypeId}(h:fn.results=#[.tmp u,.cell a t,.tmp v])(tmps:Array Value)(p:Addr)(hp:tmps.getD a undef=.pointer (some p))(w:World)(x:Value)(hv:(loadVar t p).run P w=.ok x w) :
  (results fn tmps).run P w=.ok (.tuple #[tmps.getD u undef,x,tmps.getD v undef]) w:=by
 have hp':tmps[a]?.getD undef=.pointer (some p):=by simpa using hp
 simp only[results,h];simp[asAddr,hp',hv,Sem.run_bind,Result.andThen_ok,Sem.run_pure]
theorem Qcl{W:World}{fn:Func}{R:Nat}{v k err:Value}{Q:Ending→World→Prop}(a:Act)(hf:fn.results=#[.tmp 2,.cell 3 299,.tmp 4])(ha:a.tmps.getD 3 undef=.pointer (some ⟨R,0,none⟩))(hb:a.tmps.getD 2 undef=k)(he:a.tmps.getD 4 undef=err)(had:a.defers=[])
  (r:W.heap[R]? =some (.cells #[v] 299 (0,0)))(h:Q (.returned (.tuple #[k,.agg #[v],err])) W):bodyPost prog fn Q Exit.ret a W:=by
 refine bodyPost_ret (QeU (a:=3) (u:=2) (v:=4) (t:=299) hf _ ⟨R,0,none⟩ ha _ _ (QcP _ _ _ _ (by kernel_rfl) (by kernel_rfl) (Qaa (o:=0) r rfl))) had ?_;rw[he,hb];exact h
def QgR(bp base:Nat)(w:World)(r:Option ((ByteArray×Ex)×Toks))(e:Ending)(w':World):Prop :=
 Ext (·=bp) w w'∧match r with
 | none=>∃k T,∃v:EVal base w' T,e=.returned (.tuple #[.string k,.agg #[.nilIface],.iface T v.1])
 | some ((k,x),us)=>∃T v,e=.returned (.tuple #[.string k,.agg #[.iface T v],.nilIface])∧PS w' bp base us∧NodeIs w' base (.iface T v) x
theorem Qbv{bp base:Nat}{w w':World}{r:Option ((ByteArray×Ex)×Toks)}{T:TypeId}{w9:World}{v:EVal base w9 T}{k:ByteArray}(h:r=none)(hX:Ext (·=bp) w w')(hk:∀d,OkB w9 d→OkB w' d:=by intro _ h;repeat (first | exact h | apply Qiq | apply Qip)):QgR bp base w r (.returned (.tuple #[.string k,.agg #[.nilIface],.iface T v.1])) w':=by subst h;exact⟨hX,_,_,v.to hk,rfl⟩
theorem Qdp{bp base:Nat}{w w':World}{us:Toks}{r:Option ((ByteArray×Ex)×Toks)}{T:TypeId}{v:Value}{k:ByteArray}{x:Ex}(h:r=some ((k,x),us))(hX:Ext (·=bp) w w')(hp:PS w' bp base us)(hn:NodeIs w' base (.iface T v) x):QgR bp base w r (.returned (.tuple #[.string k,.agg #[.iface T v],.nilIface])) w':=by subst h;exact⟨hX,_,_,rfl,hp,hn⟩
theorem entry_w{L:Lex}(hL:LexC L){E:Toks→Option (Ex×Toks)}{bp base N:Nat}(hE:Sh E)(hC:FnC 149 E bp base N)
  (w:World)(ts:Toks)(hp:PS w bp base ts)(hwf:Wf ts)(hN:ts.length≤N)(hbs:base≤w.heap.size) :
  Calls prog 306 #[.pointer (some ⟨bp,0,none⟩)] w (QgR bp base w (entry L E ts)):=by
 have hbb:=hp.hbp;have h15:=hp.h15;have hlen:=hp.len;have HC:=Hi hC;have HE:=Hi hE;clear hC hE;obtain⟨u,q,rfl⟩:∃u q,ts=u::q:=by cases ts with | nil=>exact absurd rfl hp.ne | cons u q=>exact⟨u,q,rfl⟩
 have htz:=hp.sz;have hwa:=hwf.adv;have hla:(adv (u::q)).length≤(u::q).length:=(Qam hwf).len;go_enter func306,ntmps306
 go_upto_region 3 with(fail)
 obtain⟨w1,hw⟩:∃w1,((w.alloc (.cells #[.nilIface] 299)).alloc (.cells #[.nilIface] 299))=w1:=⟨_,rfl⟩
 rw[hw];have hF:Below w.heap.size w w1:=by rw[←hw];exact(Qab w _).alloc (by simp) _
 have hR1:w1.heap[w.heap.size]? =some (.cells #[.nilIface] 299 (0,0)):=by rw[←hw];exact Qaf (Qah (by simp) _) _
 have hV1:w1.heap[w.heap.size+1]? =some (.cells #[.nilIface] 299 (0,0)):=by rw[←hw];exact Qah (by simp) _
 have hs1:w.heap.size+2≤w1.heap.size:=by rw[←hw];simp
 clear hw;have hX1:Ext (·=bp) w w1:=.below hF;have hp1:=hp.below hF;clear hp;clear hF
 go_wp2_with fail
 refine(Qaz hp1).mono ?_;rintro e w2⟨rfl,hp2,hF⟩;have hR2:=hF.heap (by omega) hR1;have hV2:=hF.heap (by omega) hV1;have hs2:=hF.size;have hX2:=hX1.trans hF;clear hR1 hV1 hX1 hp1;clear hF
 go_wp2_with fail
 obtain⟨w3,hw⟩:∃w3,w2.alloc (.cells u.row 122)=w3:=⟨_,rfl⟩
 rw[hw];have hF:Below w2.heap.size w2 w3:=by rw[←hw];exact Qab _ _
 have hK3:w3.heap[w2.heap.size]? =some (.cells u.row 122 (0,0)):=by rw[←hw];exact Xa _ _
 have hs3:w2.heap.size+1≤w3.heap.size:=by rw[←hw];simp
 clear hw;have hR3:=Bk hF hR2;have hV3:=Bk hF hV2;have hX3:=hX2.trans (.below hF);have hp3:=hp2.below hF;clear hR2 hV2 hX2 hp2;clear hF;obtain⟨c_hK_0,c_hK_1,c_hK_2,c_hK_3,c_hK_4,c_hK_5⟩:=Cl6 hK3 rfl rfl rfl rfl rfl rfl
 go_wp2_with fail
 refine(Qbd u _).mono ?_;rintro e w4⟨rfl,hF⟩;have hR4:=Bk hF hR3;have hV4:=Bk hF hV3;have hK4:=Bk hF hK3;have hs4:=hF.size;have hX4:=hX3.trans (.below hF);have hp4:=hp3.below hF;clear hR3 hV3 hK3 hX3 hp3 c_hK_0 c_hK_1 c_hK_2 c_hK_3 c_hK_4 c_hK_5;clear hF;cases hi:(u.ty==1)with
 | true =>
  have c_hK_5:=Qaa (o:=5) hK4 rfl
  go_wp2_with fail
  clear c_hK_5;have HKEY:=Hi (show key L (u::q)=some u.tx by unfold Pg.key;simp[ty,hd,hi]);obtain⟨u2,q2,ha2⟩:∃a b,adv (u::q)=a::b:=by
   cases h:adv (u::q)with
   | nil=>rw[h]at hwa;exact absurd rfl hwa.ne
   | cons a b=>exact⟨a,b,rfl⟩
  rw[ha2]at hwa hla hp4;have HA2:=Hi ha2;clear ha2;cases hj:(u2.tx.toList==[58])with
  | false =>
   go_wp2_with fail
   refine(Qa9 hp4 hj).mono ?_;rintro e w5⟨T9,v9,rfl,hp5,hF⟩;have hR5:=hF.heap (by omega) hR4;have hV5:=hF.heap (by omega) hV4;have hK5:=hF.heap (by omega) hK4;have hs5:=hF.size;have hX5:=hX4.trans hF;clear hR4 hV4 hK4 hX4 hp4;clear hF;have c_hR_0:=Qaa (o:=0) hR5 rfl;have f_hR:=Qae hR5 0;have c_hV_0:=Qaa (o:=0) hV5 rfl;have lt_hR:=Qad hR5;have lt_hV:=Qad hV5;have HR:=Hi (show entry L E (u::q)=none by unfold Pg.entry;rw[HKEY.out];simp[HA2.out,exact,tx,hj])
   have HB:=Hi hR5;clear hR5 hV5;go_wp2
   go_region
   all_goals go_wp2
   refine Qcl (R:=w.heap.size) _ (by kernel_rfl) rfl rfl rfl rfl (Qac (o:=0) (show(World.drew _).heap[_]? =_ from HB.out) _) ?_;exact Qbv HR.out (hX5.drew.set (p:=⟨w.heap.size,0,none⟩) (.inr (show _≤w.heap.size by omega)) _)
  | true =>
   have hlb:(adv (u2::q2)).length≤(u2::q2).length:=(Qam hwa).len
   go_wp2_with fail
   refine(Qa0 hp4 hj).mono ?_;rintro e w5⟨rfl,hp5,hF⟩;have hR5:=hF.heap (by omega) hR4;have hV5:=hF.heap (by omega) hV4;have hK5:=hF.heap (by omega) hK4;have hs5:=hF.size;have hX5:=hX4.trans hF;clear hR4 hV4 hK4 hX4 hp4;clear hF
   go_wp2_with fail
   refine(HC.out _ _ hp5 hwa.adv (by omega) (by omega)).mono ?_;rintro e w6⟨hF,hr⟩;have hR6:=hF.heap (by omega) hR5;have hV6:=hF.heap (by omega) hV5;have hK6:=hF.heap (by omega) hK5;have hs6:=hF.size;have hX6:=hX5.trans hF;clear hR5 hV5 hK5 hX5;clear hF;cases hm:E (adv (u2::q2))with
   | none =>
    rw[hm]at hr;obtain⟨T9,v9,rfl⟩:=hr;have c_hV_0:=Qaa (o:=0) hV6 rfl;have f_hV:=Qae hV6 0;have lt_hV:=Qad hV6;have lt_hR:=Qad hR6;have HV:=Hi hV6
    go_upto_region 17 with(fail)
    obtain⟨w7,hw⟩:∃w7,w6.setCell ⟨w.heap.size+1,0,none⟩ (.nilIface)=w7:=⟨_,rfl⟩
    rw[hw];have hk9:∀d,OkB w6 d→OkB w7 d:=hw▸fun _ h=>Qiq h
    have hR7:w7.heap[w.heap.size]? =some (.cells #[.nilIface] 299 (0,0)):=hw▸Qag (o:=0) hR6 (by omega) (.nilIface);have hV7:w7.heap[w.heap.size+1]? =some (.cells #[.nilIface] 299 (0,0)):=hw▸Qac (o:=0) hV6 (.nilIface);have hK7:w7.heap[w2.heap.size]? =some (.cells u.row 122 (0,0)):=hw▸Qag (o:=0) hK6 (by omega) (.nilIface);have hX7:Ext (·=bp) w w7:=hw▸hX6.set (p:=⟨w.heap.size+1,0,none⟩) (.inr (show w.heap.size≤w.heap.size+1 by omega)) (.nilIface)
    have hs7:w6.heap.size≤w7.heap.size:=by rw[←hw];simp
    clear hR6 hV6 hK6 hX6 c_hV_0 f_hV lt_hV lt_hR hw;have c_hR_0:=Qaa (o:=0) hR7 rfl;have f_hR:=Qae hR7 0;have c_hV_0:=Qaa (o:=0) hV7 rfl;have lt_hR:=Qad hR7;have lt_hV:=Qad hV7;have HR:=Hi (show entry L E (u::q)=none by unfold Pg.entry;rw[HKEY.out];simp[HA2.out,exact,tx,hj,hm]);have HB:=Hi hR7;clear hR7 hV7;go_wp2
    go_region
    all_goals go_wp2
    refine Qcl (R:=w.heap.size) _ (by kernel_rfl) rfl rfl rfl rfl (Qac (o:=0) (show(World.drew _).heap[_]? =_ from HB.out) _) ?_;exact Qbv HR.out (hX7.drew.set (p:=⟨w.heap.size,0,none⟩) (.inr (show _≤w.heap.size by omega)) _) (fun _ h=>Qiq (hk9 _ h))
   | some p2 =>
    obtain⟨x,us⟩:=p2;rw[hm]at hr;obtain⟨T9,v9,rfl,hp9,hn6⟩:=hr;have HM:=Hi hm;clear hm;have c_hV_0:=Qaa (o:=0) hV6 rfl;have f_hV:=Qae hV6 0;have lt_hV:=Qad hV6;have lt_hR:=Qad hR6
    go_upto_region 17 with(fail)
    obtain⟨w7,hw⟩:∃w7,w6.setCell ⟨w.heap.size+1,0,none⟩ (.iface T9 v9)=w7:=⟨_,rfl⟩
    rw[hw];have hn7:NodeIs w7 base _ _:=hw▸hn6.store (o:=0) hV6 (by decide) (.iface T9 v9);have hR7:w7.heap[w.heap.size]? =some (.cells #[.nilIface] 299 (0,0)):=hw▸Qag (o:=0) hR6 (by omega) (.iface T9 v9);have hV7:w7.heap[w.heap.size+1]? =some (.cells #[.iface T9 v9] 299 (0,0)):=hw▸Qac (o:=0) hV6 (.iface T9 v9);have hK7:w7.heap[w2.heap.size]? =some (.cells u.row 122 (0,0)):=hw▸Qag (o:=0) hK6 (by omega) (.iface T9 v9)
    have hX7:Ext (·=bp) w w7:=hw▸hX6.set (p:=⟨w.heap.size+1,0,none⟩) (.inr (show w.heap.size≤w.heap.size+1 by omega)) (.iface T9 v9);have hs7:w6.heap.size≤w7.heap.size:=by rw[←hw];simp
    have hp7:PS w7 bp base _:=hw▸hp9.set (o:=0) (show base≤w.heap.size+1 by omega) (.iface T9 v9);clear hn6 hR6 hV6 hK6 hX6 hp9 c_hV_0 f_hV lt_hV lt_hR hw;have c_hR_0:=Qaa (o:=0) hR7 rfl;have f_hR:=Qae hR7 0;have c_hV_0:=Qaa (o:=0) hV7 rfl;have lt_hR:=Qad hR7;have lt_hV:=Qad hV7;have HR:=Hi (show entry L E (u::q)=some ((u.tx,x),us)by unfold Pg.entry;rw[HKEY.out];simp[HA2.out,exact,tx,hj,HM.out]);have HB:=Hi hR7;clear hR7 hV7
    go_wp2
    go_region
    all_goals go_wp2
    have hB9:(World.drew w7).heap[w.heap.size]? =some (.cells #[.nilIface] 299 (0,0)):=HB.out;have hd9:Ext (fun _=>False) w7 (World.drew w7):=(Ext.refl _ _).drew;refine Qcl (R:=w.heap.size) _ (by kernel_rfl) rfl rfl rfl rfl (Qac (o:=0) hB9 _) ?_;exact Qdp HR.out (hX7.drew.set (p:=⟨w.heap.size,0,none⟩) (.inr (show _≤w.heap.size by omega)) _) ((hp7.ext hd9 (fun _ k=>k.elim)).set (o:=0) (by omega) _) ((hn7.ext hd9 (fun _ k=>k.elim)).store (o:=0) hB9 (by decide) _)
 | false =>
  obtain⟨c_hK_0,c_hK_1,c_hK_2,c_hK_3,c_hK_4,c_hK_5⟩:=Cl6 hK4 rfl rfl rfl rfl rfl rfl
  go_wp2_with fail
  refine(QbY u _).mono ?_;rintro e w5⟨rfl,hF⟩;have hR5:=Bk hF hR4;have hV5:=Bk hF hV4;have hK5:=Bk hF hK4;have hs5:=hF.size;have hX5:=hX4.trans (.below hF);have hp5:=hp4.below hF;clear hR4 hV4 hK4 hX4 hp4 c_hK_0 c_hK_1 c_hK_2 c_hK_3 c_hK_4 c_hK_5;clear hF;cases hk:(u.ty==4)with
  | false =>
   go_wp2_with fail
   refine(Qay hp5 _ _).mono ?_;rintro e w6⟨T9,v9,rfl,hF⟩;have hR6:=Bk hF hR5;have hV6:=Bk hF hV5;have hK6:=Bk hF hK5;have hs6:=hF.size;have hX6:=hX5.trans (.below hF);have hp6:=hp5.below hF;clear hR5 hV5 hK5 hX5 hp5;clear hF;have c_hR_0:=Qaa (o:=0) hR6 rfl;have f_hR:=Qae hR6 0;have lt_hR:=Qad hR6;have HR:=Hi (show entry L E (u::q)=none by unfold Pg.entry Pg.key;simp[ty,hd,hi,hk]);have HB:=Hi hR6;clear hR6
   go_wp2;refine Qcl (R:=w.heap.size) _ (by kernel_rfl) rfl rfl rfl rfl (Qac (o:=0) HB.out _) ?_;exact Qbv HR.out (hX6.set (p:=⟨w.heap.size,0,none⟩) (.inr (show _≤w.heap.size by omega)) _)
  | true =>
   obtain⟨c_hK_0,c_hK_1,c_hK_2,c_hK_3,c_hK_4,c_hK_5⟩:=Cl6 hK5 rfl rfl rfl rfl rfl rfl
   go_wp2_with fail
   refine(hL.str u _ hp5.g (by omega) htz hp5.hbs).mono ?_;rintro e w6⟨hF,hr⟩;have hR6:=Bk hF hR5;have hV6:=Bk hF hV5;have hK6:=Bk hF hK5;have hs6:=hF.size;have hX6:=hX5.trans (.below hF);have hp6:=hp5.below hF;clear hR5 hV5 hK5 hX5 hp5 c_hK_0 c_hK_1 c_hK_2 c_hK_3 c_hK_4 c_hK_5;clear hF;cases hm:L.str u.tx with
   | none =>
    rw[hm]at hr;obtain⟨s9,T9,v9,rfl⟩:=hr;have c_hR_0:=Qaa (o:=0) hR6 rfl;have f_hR:=Qae hR6 0;have c_hV_0:=Qaa (o:=0) hV6 rfl;have lt_hR:=Qad hR6;have lt_hV:=Qad hV6;have HR:=Hi (show entry L E (u::q)=none by unfold Pg.entry Pg.key;simp[ty,hd,hi,hk,hm]);have HB:=Hi hR6;clear hR6 hV6;go_wp2
    go_region
    all_goals go_wp2
    refine Qcl (R:=w.heap.size) _ (by kernel_rfl) rfl rfl rfl rfl (Qac (o:=0) (show(World.drew _).heap[_]? =_ from HB.out) _) ?_;exact Qbv HR.out (hX6.drew.set (p:=⟨w.heap.size,0,none⟩) (.inr (show _≤w.heap.size by omega)) _)
   | some s =>
    rw[hm]at hr;obtain⟨rfl,hsz⟩:=hr;have HSM:=Hi hm;clear hm;have HKEY:=Hi (show key L (u::q)=some s by unfold Pg.key;simp[ty,hd,hi,hk,HSM.out]);obtain⟨u2,q2,ha2⟩:∃a b,adv (u::q)=a::b:=by
     cases h:adv (u::q)with
     | nil=>rw[h]at hwa;exact absurd rfl hwa.ne
     | cons a b=>exact⟨a,b,rfl⟩
    rw[ha2]at hwa hla hp6;have HA2:=Hi ha2;clear ha2;cases hj:(u2.tx.toList==[58])with
    | false =>
     go_wp2_with fail
     refine(Qa9 hp6 hj).mono ?_;rintro e w7⟨T9,v9,rfl,hp7,hF⟩;have hR7:=hF.heap (by omega) hR6;have hV7:=hF.heap (by omega) hV6;have hK7:=hF.heap (by omega) hK6;have hs7:=hF.size;have hX7:=hX6.trans hF;clear hR6 hV6 hK6 hX6 hp6;clear hF;have c_hR_0:=Qaa (o:=0) hR7 rfl;have f_hR:=Qae hR7 0;have c_hV_0:=Qaa (o:=0) hV7 rfl;have lt_hR:=Qad hR7;have lt_hV:=Qad hV7;have HR:=Hi (show entry L E (u::q)=none by unfold Pg.entry;rw[HKEY.out];simp[HA2.out,exact,tx,hj])
     have HB:=Hi hR7;clear hR7 hV7;go_wp2
     go_region
     all_goals go_wp2
     refine Qcl (R:=w.heap.size) _ (by kernel_rfl) rfl rfl rfl rfl (Qac (o:=0) (show(World.drew _).heap[_]? =_ from HB.out) _) ?_;exact Qbv HR.out (hX7.drew.set (p:=⟨w.heap.size,0,none⟩) (.inr (show _≤w.heap.size by omega)) _)
    | true =>
     have hlb:(adv (u2::q2)).length≤(u2::q2).length:=(Qam hwa).len
     go_wp2_with fail
     refine(Qa0 hp6 hj).mono ?_;rintro e w7⟨rfl,hp7,hF⟩;have hR7:=hF.heap (by omega) hR6;have hV7:=hF.heap (by omega) hV6;have hK7:=hF.heap (by omega) hK6;have hs7:=hF.size;have hX7:=hX6.trans hF;clear hR6 hV6 hK6 hX6 hp6;clear hF
     go_wp2_with fail
     refine(HC.out _ _ hp7 hwa.adv (by omega) (by omega)).mono ?_;rintro e w8⟨hF,hr⟩;have hR8:=hF.heap (by omega) hR7;have hV8:=hF.heap (by omega) hV7;have hK8:=hF.heap (by omega) hK7;have hs8:=hF.size;have hX8:=hX7.trans hF;clear hR7 hV7 hK7 hX7;clear hF;cases hm:E (adv (u2::q2))with
     | none =>
      rw[hm]at hr;obtain⟨T9,v9,rfl⟩:=hr;have c_hV_0:=Qaa (o:=0) hV8 rfl;have f_hV:=Qae hV8 0;have lt_hV:=Qad hV8;have lt_hR:=Qad hR8;have HV:=Hi hV8
      go_upto_region 17 with(fail)
      obtain⟨w9,hw⟩:∃w9,w8.setCell ⟨w.heap.size+1,0,none⟩ (.nilIface)=w9:=⟨_,rfl⟩
      rw[hw];have hk9:∀d,OkB w8 d→OkB w9 d:=hw▸fun _ h=>Qiq h
      have hR9:w9.heap[w.heap.size]? =some (.cells #[.nilIface] 299 (0,0)):=hw▸Qag (o:=0) hR8 (by omega) (.nilIface);have hV9:w9.heap[w.heap.size+1]? =some (.cells #[.nilIface] 299 (0,0)):=hw▸Qac (o:=0) hV8 (.nilIface);have hK9:w9.heap[w2.heap.size]? =some (.cells u.row 122 (0,0)):=hw▸Qag (o:=0) hK8 (by omega) (.nilIface);have hX9:Ext (·=bp) w w9:=hw▸hX8.set (p:=⟨w.heap.size+1,0,none⟩) (.inr (show w.heap.size≤w.heap.size+1 by omega)) (.nilIface)
      have hs9:w8.heap.size≤w9.heap.size:=by rw[←hw];simp
      clear hR8 hV8 hK8 hX8 c_hV_0 f_hV lt_hV lt_hR hw;have c_hR_0:=Qaa (o:=0) hR9 rfl;have f_hR:=Qae hR9 0;have c_hV_0:=Qaa (o:=0) hV9 rfl;have lt_hR:=Qad hR9;have lt_hV:=Qad hV9;have HR:=Hi (show entry L E (u::q)=none by unfold Pg.entry;rw[HKEY.out];simp[HA2.out,exact,tx,hj,hm]);have HB:=Hi hR9;clear hR9 hV9;go_wp2
      go_region
      all_goals go_wp2
      refine Qcl (R:=w.heap.size) _ (by kernel_rfl) rfl rfl rfl rfl (Qac (o:=0) (show(World.drew _).heap[_]? =_ from HB.out) _) ?_;exact Qbv HR.out (hX9.drew.set (p:=⟨w.heap.size,0,none⟩) (.inr (show _≤w.heap.size by omega)) _) (fun _ h=>Qiq (hk9 _ h))
     | some p2 =>
      obtain⟨x,us⟩:=p2;rw[hm]at hr;obtain⟨T9,v9,rfl,hp9,hn8⟩:=hr;have HM:=Hi hm;clear hm;have c_hV_0:=Qaa (o:=0) hV8 rfl;have f_hV:=Qae hV8 0;have lt_hV:=Qad hV8;have lt_hR:=Qad hR8
      go_upto_region 17 with(fail)
      obtain⟨w9,hw⟩:∃w9,w8.setCell ⟨w.heap.size+1,0,none⟩ (.iface T9 v9)=w9:=⟨_,rfl⟩
      rw[hw];have hn9:NodeIs w9 base _ _:=hw▸hn8.store (o:=0) hV8 (by decide) (.iface T9 v9);have hR9:w9.heap[w.heap.size]? =some (.cells #[.nilIface] 299 (0,0)):=hw▸Qag (o:=0) hR8 (by omega) (.iface T9 v9);have hV9:w9.heap[w.heap.size+1]? =some (.cells #[.iface T9 v9] 299 (0,0)):=hw▸Qac (o:=0) hV8 (.iface T9 v9);have hK9:w9.heap[w2.heap.size]? =some (.cells u.row 122 (0,0)):=hw▸Qag (o:=0) hK8 (by omega) (.iface T9 v9)
      have hX9:Ext (·=bp) w w9:=hw▸hX8.set (p:=⟨w.heap.size+1,0,none⟩) (.inr (show w.heap.size≤w.heap.size+1 by omega)) (.iface T9 v9);have hs9:w8.heap.size≤w9.heap.size:=by rw[←hw];simp
      have hp_w9:PS w9 bp base _:=hw▸hp9.set (o:=0) (show base≤w.heap.size+1 by omega) (.iface T9 v9);clear hn8 hR8 hV8 hK8 hX8 hp9 c_hV_0 f_hV lt_hV lt_hR hw;have c_hR_0:=Qaa (o:=0) hR9 rfl;have f_hR:=Qae hR9 0;have c_hV_0:=Qaa (o:=0) hV9 rfl;have lt_hR:=Qad hR9;have lt_hV:=Qad hV9;have HR:=Hi (show entry L E (u::q)=some ((s,x),us)by unfold Pg.entry;rw[HKEY.out];simp[HA2.out,exact,tx,hj,HM.out]);have HB:=Hi hR9;clear hR9 hV9
      go_wp2
      go_region
      all_goals go_wp2
      have hB9:(World.drew w9).heap[w.heap.size]? =some (.cells #[.nilIface] 299 (0,0)):=HB.out;have hd9:Ext (fun _=>False) w9 (World.drew w9):=(Ext.refl _ _).drew;refine Qcl (R:=w.heap.size) _ (by kernel_rfl) rfl rfl rfl rfl (Qac (o:=0) hB9 _) ?_;exact Qdp HR.out (hX9.drew.set (p:=⟨w.heap.size,0,none⟩) (.inr (show _≤w.heap.size by omega)) _) ((hp_w9.ext hd9 (fun _ k=>k.elim)).set (o:=0) (by omega) _) ((hn9.ext hd9 (fun _ k=>k.elim)).store (o:=0) hB9 (by decide) _)
def entv:List (ByteArray×Value)→Nat→List MapEntry
 | [],_=>[]
 | (k,v)::l,i=>{key:=.string k,val:=v,born:=i}::entv l (i+1)
theorem Qev:∀(l:List (ByteArray×Value))(k:ByteArray)(v:Value)(i:Nat),entv (l++[(k,v)]) i=entv l i++[{key:=.string k,val:=v,born:=i+l.length}]
 | [],k,v,i=>rfl
 | (a,b)::l,k,v,i=>by
  rw[List.cons_append,entv,Qev l k v (i+1),entv,List.cons_append,List.length_cons,Nat.add_assoc,Nat.add_comm 1]
theorem Qdq(s:ByteArray):∀(l:List (ByteArray×Value))(i j:Nat),match l.find? (fun p=>s.toList==p.1.toList)with
  | some p=>∃j',Instr.findNow .string (.string s) (entv l i) j=some (some (j',p.2))
  | none=>Instr.findNow .string (.string s) (entv l i) j=some none
 | [],i,j=>rfl
 | (k,v)::l,i,j=>by
  have ih:=Qdq s l (i+1) (j+1);rw[List.find?_cons];cases h:(s.toList==k.toList)with
  | true=>exact⟨j,by simp[entv,Instr.findNow,Qcb,h]⟩
  | false=>simpa [entv,Instr.findNow,Qcb,h]using ih
def Qb0(w:World)(b:Nat)(l:List (ByteArray×Value)):Prop:=w.heap[b]? =some (.map (entv l 0).toArray l.length)
def setMap(w:World)(b:Nat)(es:Array MapEntry)(clock:Nat):World:={w with heap:=w.heap.setIfInBounds b (.map es clock)}
theorem Qc5{w:World}{b:Nat}{o:Obj}(h:w.heap[b]? =some o)(es:Array MapEntry)(clock:Nat):(setMap w b es clock).heap[b]? =some (.map es clock):=by
 have:=Qad h;simp[setMap,this]
theorem Qcm{w:World}{b c:Nat}{o:Obj}(h:w.heap[c]? =some o)(hn:c≠b)(es:Array MapEntry)(clock:Nat):(setMap w b es clock).heap[c]? =some o:=by
 simp only[setMap];rw[Array.getElem?_setIfInBounds_ne (fun e=>hn e.symm)];exact h
theorem Ext.setMap{S:Nat→Prop}{a b:World}(h:Ext S a b){d:Nat}(hd:S d∨a.heap.size≤d)(es:Array MapEntry)(clock:Nat)(hm:¬OkB b d):Ext S a (setMap b d es clock):=by
 refine⟨h.os,h.tape,h.output,by simpa [Pg.setMap]using h.size,fun c hc hs=>?_,fun c hc=>by
  have hk:=h.ok c hc;have hne:c≠d:=fun e=>hm (e▸hk)
  exact hk.imp fun u hu=>Qcm hu hne es clock⟩
 have hne:c≠d:=by
  rintro rfl;rcases hd with hd | hd
  ·exact hs hd
  ·omega
 simp only[Pg.setMap];rw[Array.getElem?_setIfInBounds_ne (fun e=>hne e.symm)];exact h.block c hc hs
theorem Qdh{P:Program}{t kt et:TypeId}(ht:P.underlying t=some (.map kt et))(hkt:P.underlying kt=some .string){z:Value}{w:World}(hz:(zeroValue et).run P w=.ok z w){b:Nat}{l:List (ByteArray×Value)}(hb:Qb0 w b l)(s:ByteArray) :
  (Instr.lookup t (.map (some b)) (.string s) true).run P w=.ok (match l.find? (fun p=>s.toList==p.1.toList)with
   | some p=>.tuple #[p.2,.bool true]
   | none=>.tuple #[z,.bool false]) w:=by
 have hf:=Qdq s l 0 0;unfold Qb0 at hb;cases h:l.find? (fun p=>s.toList==p.1.toList)with
 | some p =>
  rw[h]at hf;obtain⟨j,hf⟩:=hf;simp only[Instr.lookup,Instr.findKey,Sem.run_bind,run_underlying ht,run_underlying hkt,Result.andThen_ok,getObj,Sem.run,hb,mkey hkt,hf,Sem.run_pure,if_true]
 | none =>
  rw[h]at hf;simp only at hf;simp only[Instr.lookup,Instr.findKey,Sem.run_bind,run_underlying ht,run_underlying hkt,Result.andThen_ok,getObj,Sem.run,hb,mkey hkt,hf,Sem.run_pure,hz,if_true]
theorem Qew{P:Program}{t kt et:TypeId}(ht:P.underlying t=some (.map kt et))(hkt:P.underlying kt=some .string){z:Value}{w:World}(hz:(zeroValue et).run P w=.ok z w)(s:ByteArray) :
  (Instr.lookup t (.map none) (.string s) true).run P w=.ok (.tuple #[z,.bool false]) w:=by
 simp only[Instr.lookup,Instr.findKey,Sem.run_bind,run_underlying ht,run_underlying hkt,Result.andThen_ok,Sem.run_pure];rw[mkey hkt];simp only[Instr.findNow,Sem.run_pure,Result.andThen_ok,Sem.run_bind,hz,run_underlying hkt,if_true]
theorem QeV{P:Program}{t kt et:TypeId}(ht:P.underlying t=some (.map kt et))(hkt:P.underlying kt=some .string){w:World}{b:Nat}{l:List (ByteArray×Value)}(hb:Qb0 w b l)(s:ByteArray)(v:Value)(hn:l.find? (fun p=>s.toList==p.1.toList)=none) :
  (Instr.mapUpdate t (.map (some b)) (.string s) v).run P w=.ok () (setMap w b (entv (l++[(s,v)]) 0).toArray (l++[(s,v)]).length):=by
 have hf:=Qdq s l 0 0;rw[hn]at hf;simp only at hf;unfold Qb0 at hb;simp only[Instr.mapUpdate,Instr.findKey,Sem.run_bind,run_underlying ht,run_underlying hkt,Result.andThen_ok,getObj,Sem.run,hb,mkey hkt,hf,Sem.run_pure,setObj];rw[Qev,List.length_append];simp[Pg.setMap]
def SM(B bx:Nat)(w:World)(d:Nat):Prop:=d=bx∨(B≤d∧∃es c,w.heap[d]? =some (.map es c))
theorem RowAt.extG{w w':World}{lo tag:Nat}{S:Nat→Prop}{p:Option Addr}{n:Nat}{vs:Nat→Value}(h:RowAt w lo tag p n vs)(he:Ext S w w')(hs:∀d,S d→∀c fr,w.heap[d]?≠some (.cells c tag fr)):RowAt w' lo tag p n vs:=by
 rcases h with h | ⟨b,off,c,fr,h1,h2,h3,h4⟩
 ·exact .inl h
 ·exact .inr ⟨b,off,c,fr,h1,h2,he.heap (fun hS=>hs _ hS _ _ h3) h3,h4⟩
theorem Row2At.extG{w w':World}{lo tag:Nat}{S:Nat→Prop}{p:Option Addr}{n:Nat}{us vs:Nat→Value}(h:Row2At w lo tag p n us vs)(he:Ext S w w')(hs:∀d,S d→∀c fr,w.heap[d]?≠some (.cells c tag fr)):Row2At w' lo tag p n us vs:=by
 rcases h with h | ⟨b,off,c,fr,h1,h2,h3,h4⟩
 ·exact .inl h
 ·exact .inr ⟨b,off,c,fr,h1,h2,he.heap (fun hS=>hs _ hS _ _ h3) h3,h4⟩
theorem NodeIs.extG{w w':World}{lo:Nat}{S:Nat→Prop}{v:Value}{x:Ex}(h:NodeIs w lo v x)(he:Ext S w w')(hs:∀d,S d→∀T c fr,w.heap[d]? =some (.cells c T fr)→T≠136∧T≠221∧T≠316):NodeIs w' lo v x:=by
 have h1:∀d,S d→∀c fr,w.heap[d]?≠some (.cells c 136 fr):=fun d hd c fr h=>(hs d hd _ c fr h).1 rfl
 have h2:∀d,S d→∀c fr,w.heap[d]?≠some (.cells c 221 fr):=fun d hd c fr h=>(hs d hd _ c fr h).2.1 rfl
 have h3:∀d,S d→∀c fr,w.heap[d]?≠some (.cells c 316 fr):=fun d hd c fr h=>(hs d hd _ c fr h).2.2 rfl
 induction h with
 | val v=>exact .val v
 | var s=>exact .var s
 | ite x y z a b c _ _ _ i1 i2 i3=>exact .ite x y z a b c i1 i2 i3
 | bin op x y a b _ _ i1 i2=>exact .bin op x y a b i1 i2
 | una op x a _ i1=>exact .una op x a i1
 | sop op x s a _ i1=>exact .sop op x s a i1
 | isIn x y s a b _ _ i1 i2=>exact .isIn x y s a b i1 i2
 | like x a l p c _ hr i1=>exact .like x a l p c i1 (hr.extG he h3)
 | call s l p c vs hr _ ih=>exact .call s l p c vs (hr.extG he h1) ih
 | set l p c vs hr _ ih=>exact .set l p c vs (hr.extG he h1) ih
 | recd l p c vs hr _ ih=>exact .recd l p c vs (hr.extG he h2) ih
theorem Qcc{S:Nat→Prop}{w w':World}{base:Nat}{e:TypeId}{size:Nat}{v:Value}{n:Nat}{xs:List Value}(h:w.ownsRow base e size v n xs)(he:Ext S w w')(hs:∀d,S d→∀c fr,w.heap[d]?≠some (.cells c e fr)):w'.ownsRow base e size v n xs:=by
 obtain⟨h1,h2⟩:=h;refine⟨h1,?_⟩;rcases h2 with h | ⟨g,cap,cur,a,b,c,d⟩
 ·exact .inl h
 ·exact .inr ⟨g,cap,cur,a,b,he.heap (fun hS=>hs _ hS _ _ c) c,d⟩
def MsIs(w:World)(B bx:Nat)(keys:List ByteArray):Prop :=
 (keys=[]∧w.heap[bx]? =some (.cells #[.map none] 283 (0,0)))∨∃b,w.heap[bx]? =some (.cells #[.map (some b)] 283 (0,0))∧B≤b∧Qb0 w b (keys.map fun k=>(k,.agg #[]))
def MsVal(w:World)(B:Nat)(v:Value)(keys:List ByteArray):Prop :=
 (keys=[]∧v=.map none)∨∃b,v=.map (some b)∧B≤b∧Qb0 w b (keys.map fun k=>(k,.agg #[]))
theorem MsIs.val{w:World}{B bx:Nat}{keys:List ByteArray}(h:MsIs w B bx keys):∃v,w.heap[bx]? =some (.cells #[v] 283 (0,0))∧MsVal w B v keys:=by
 rcases h with⟨h1,h2⟩ | ⟨b,h1,h2,h3⟩
 ·exact⟨_,h2,.inl ⟨h1,rfl⟩⟩
 ·exact⟨_,h1,.inr ⟨b,rfl,h2,h3⟩⟩
theorem Qex(s:ByteArray)(keys:List ByteArray):((keys.map fun k=>(k,Value.agg #[])).find? (fun p=>s.toList==p.1.toList))=(keys.find? fun k=>s.toList==k.toList).map fun k=>(k,.agg #[]):=by
 rw[List.find?_map];rfl
theorem QcT{w:World}{B:Nat}{v:Value}{keys:List ByteArray}(h:MsVal w B v keys)(s:ByteArray) :
  Calls prog 135 #[.agg #[v],.string s] w fun e w'=>e=.returned (.bool (keys.any fun k=>s.toList==k.toList))∧Below w.heap.size w w':=by
 have ht:prog.underlying 281=some (.map 9 272):=by kernel_rfl
 have hkt:prog.underlying 9=some .string:=by kernel_rfl
 have hz:∀w,(zeroValue 272).run prog w=.ok (.agg #[]) w:=fun w=>by kernel_rfl
 rcases h with⟨rfl,rfl⟩ | ⟨b,rfl,hB,hm⟩
 ·have hl:=fun w=>Qew (w:=w) ht hkt (hz w) s
  clear ht hkt hz;go_enter func135,ntmps135;go_wp2;go_ret;exact⟨rfl,(Qab w _).alloc (by simp) _⟩
 ·have hm1:Qb0 (w.alloc (.cells #[.map (some b)] 283)) b (keys.map fun k=>(k,.agg #[])):=Qaf hm _
  have hl:=Qdh ht hkt (hz _) hm1 s;rw[Qex]at hl;clear ht hkt hz hm hm1;cases hf:keys.find? (fun k=>s.toList==k.toList)with
  | none =>
   rw[hf]at hl;simp only[Option.map_none]at hl;have hany:(keys.any fun k=>s.toList==k.toList)=false:=by simpa using hf
   have HA:=Hi hany;clear hf hany;go_enter func135,ntmps135;go_wp2;go_ret;rw[HA.out];exact⟨rfl,(Qab w _).alloc (by simp) _⟩
  | some k =>
   rw[hf]at hl;simp only[Option.map_some]at hl;have hany:(keys.any fun k=>s.toList==k.toList)=true:=by
    rw[List.any_eq_true];exact⟨k,List.mem_of_find?_eq_some hf,List.find?_some (p:=fun k:ByteArray=>s.toList==k.toList) hf⟩
   have HA:=Hi hany;clear hf hany;go_enter func135,ntmps135;go_wp2;go_ret;rw[HA.out];exact⟨rfl,(Qab w _).alloc (by simp) _⟩
@[go_sem] theorem eql281_s(b:Nat)(w:World):(binOp .eql 281 (.map (some b)) (.map none)).run prog w=.ok (.bool false) w:=by kernel_rfl
@[go_sem] theorem eql281_n(w:World):(binOp .eql 281 (.map none) (.map none)).run prog w=.ok (.bool true) w:=by kernel_rfl
def AddP(B bx:Nat)(keys:List ByteArray)(w:World)(e:Ending)(w':World):Prop :=
 e=.returned (.bool true)∧MsIs w' B bx keys∧Ext (SM B bx w) w w'
theorem add_some{w:World}{B bx b:Nat}{keys:List ByteArray}(hx:w.heap[bx]? =some (.cells #[.map (some b)] 283 (0,0)))(hB:B≤b)(hm:Qb0 w b (keys.map fun k=>(k,.agg #[])))(s:ByteArray)(hn:(keys.any fun k=>s.toList==k.toList)=false) :
  Calls prog 136 #[.pointer (some ⟨bx,0,none⟩),.string s] w (AddP B bx (keys++[s]) w):=by
 have ht:prog.underlying 281=some (.map 9 272):=by kernel_rfl
 have hkt:prog.underlying 9=some .string:=by kernel_rfl
 have hz:∀w,(zeroValue 272).run prog w=.ok (.agg #[]) w:=fun w=>by kernel_rfl
 have hlb:=Qad hm;have hlx:=Qad hx;have hf:(keys.map fun k=>(k,Value.agg #[])).find? (fun p=>s.toList==p.1.toList)=none:=by
  rw[Qex];have:keys.find? (fun k=>s.toList==k.toList)=none:=by simpa using hn
  rw[this];rfl
 have hl:=Qdh ht hkt (hz _) hm s;rw[hf]at hl;simp only at hl;have c0:w.cell? ⟨bx,0,none⟩=some (.map (some b)):=Qaa hx rfl;have HM:=Hi hm;have HF:=Hi hf;have HX:=Hi hx;clear hm hf hz hn hx;go_enter func136,ntmps136
 go_upto_region 4 with(fail)
 obtain⟨w1,hw⟩:∃w1,w.alloc (.cells #[] 272)=w1:=⟨_,rfl⟩
 rw[hw];have hb1:Below w.heap.size w w1:=by rw[←hw];exact Qab _ _
 have hm1:Qb0 w1 b (keys.map fun k=>(k,.agg #[])):=(hb1.block _ hlb).trans HM.out;have c1:=QbR hb1 hlx c0;have hx1:w1.heap[bx]? =some (.cells #[.map (some b)] 283 (0,0)):=(hb1.block _ hlx).trans HX.out;have hins:∀v,(Instr.mapUpdate 281 (.map (some b)) (.string s) v).run prog w1.drew=.ok () (setMap w1.drew b (entv ((keys.map fun k=>(k,Value.agg #[]))++[(s,v)]) 0).toArray ((keys.map fun k=>(k,Value.agg #[]))++[(s,v)]).length):=fun v=>QeV ht hkt (w:=w1.drew) hm1 s v HF.out
 clear hw hl ht hkt c0;have HX1:=Hi hx1;have HM1:=Hi hm1;clear hx1 hm1;go_wp2
 go_region
 all_goals go_wp2
 all_goals go_ret
 have hne:bx≠b:=by
  rintro rfl;have h1:=HX1.out;have h2:=HM1.out;unfold Qb0 at h2;rw[h1]at h2;cases h2
 have hx1:w1.drew.heap[bx]? =some (.cells #[.map (some b)] 283 (0,0)):=HX1.out;have hm1:w1.drew.heap[b]? =some _:=HM1.out;refine⟨rfl,.inr ⟨b,Qcm hx1 hne _ _,hB,?_⟩,?_⟩
 ·unfold Qb0
  rw[Qc5 hm1,List.map_append];simp
 ·exact(Ext.below hb1).drew.setMap (.inl (.inr ⟨hB,_,_,HM.out⟩)) _ _ (fun⟨u,hu⟩=>by have:=(show w1.heap[b]? =_ from hu).symm.trans hm1;cases this)
theorem add_nil{w:World}{B bx:Nat}(hx:w.heap[bx]? =some (.cells #[.map none] 283 (0,0)))(hB:B≤w.heap.size)(s:ByteArray) :
  Calls prog 136 #[.pointer (some ⟨bx,0,none⟩),.string s] w (AddP B bx [s] w):=by
 have ht:prog.underlying 281=some (.map 9 272):=by kernel_rfl
 have hkt:prog.underlying 9=some .string:=by kernel_rfl
 have hz:∀w,(zeroValue 272).run prog w=.ok (.agg #[]) w:=fun w=>by kernel_rfl
 have hmk:∀w:World,(Instr.makeMap 281 none).run prog w=.ok (.map (some w.heap.size)) (w.alloc (.map #[] 0)):=fun w=>by kernel_rfl
 have hlx:=Qad hx;have c0:w.cell? ⟨bx,0,none⟩=some (.map none):=Qaa hx rfl;have f0:∀o,(w.alloc o).frozen? ⟨bx,0,none⟩=false:=fun o=>Qae (Qaf hx o) 0
 have HX:=Hi hx;clear hx;go_enter func136,ntmps136
 go_upto_region 3 with(fail)
 obtain⟨w0,hw⟩:∃w0,(w.setCell ⟨bx,0,none⟩ (.map (some w.heap.size))).alloc (.map #[] 0)=w0:=⟨_,rfl⟩
 rw[hw];have hx0:w0.heap[bx]? =some (.cells #[.map (some w.heap.size)] 283 (0,0)):=by rw[←hw];exact Qaf (Qac (o:=0) HX.out _) _
 have hm0:Qb0 w0 w.heap.size []:=by
  rw[←hw];exact Qah (by simp) _
 have hX0:Ext (SM B bx w) w w0:=by rw[←hw];exact((Ext.refl _ w).set (p:=⟨bx,0,none⟩) (.inl (.inl rfl)) _).alloc _
 have hs0:w.heap.size+1≤w0.heap.size:=by rw[←hw];simp
 clear hw c0 f0 hmk;have hl:=Qdh ht hkt (hz _) hm0 s;simp only[List.find?_nil]at hl;have c0:w0.cell? ⟨bx,0,none⟩=some (.map (some w.heap.size)):=Qaa hx0 rfl;have hlb:=Qad hm0;have hlx0:=Qad hx0;have HM:=Hi hm0;have HX0:=Hi hx0;clear hm0 hx0 hz
 go_upto_region 4 with(fail)
 obtain⟨w1,hw⟩:∃w1,w0.alloc (.cells #[] 272)=w1:=⟨_,rfl⟩
 rw[hw];have hb1:Below w0.heap.size w0 w1:=by rw[←hw];exact Qab _ _
 have hm1:Qb0 w1 w.heap.size []:=(hb1.block _ hlb).trans HM.out;have c1:=QbR hb1 hlx0 c0;have hx1:w1.heap[bx]? =some (.cells #[.map (some w.heap.size)] 283 (0,0)):=(hb1.block _ hlx0).trans HX0.out;have hins:∀v,(Instr.mapUpdate 281 (.map (some w.heap.size)) (.string s) v).run prog w1.drew=.ok () (setMap w1.drew w.heap.size (entv ([]++[(s,v)]) 0).toArray ([]++[(s,v)]).length):=fun v=>QeV ht hkt (w:=w1.drew) hm1 s v rfl
 clear hw hl ht hkt c0;have HX1:=Hi hx1;have HM1:=Hi hm1;clear hx1 hm1;go_wp2
 go_region
 all_goals go_wp2
 all_goals go_ret
 have hx1:w1.drew.heap[bx]? =some (.cells #[.map (some w.heap.size)] 283 (0,0)):=HX1.out;have hm1:w1.drew.heap[w.heap.size]? =some _:=HM1.out;refine⟨rfl,.inr ⟨w.heap.size,Qcm hx1 (by omega) _ _,hB,?_⟩,?_⟩
 ·unfold Qb0
  rw[Qc5 hm1];simp
 ·exact(hX0.trans' (Ext.below (S:=fun _=>False) hb1) (fun _ k=>k.elim)).drew.setMap (.inr (Xb _)) _ _ (fun⟨u,hu⟩=>by have:=(show w1.heap[w.heap.size]? =_ from hu).symm.trans hm1;cases this)
theorem add_c{w:World}{B bx:Nat}{keys:List ByteArray}(h:MsIs w B bx keys)(hB:B≤w.heap.size)(s:ByteArray)(hn:(keys.any fun k=>s.toList==k.toList)=false) :
  Calls prog 136 #[.pointer (some ⟨bx,0,none⟩),.string s] w (AddP B bx (keys++[s]) w):=by
 rcases h with⟨rfl,h⟩ | ⟨b,h1,h2,h3⟩
 ·exact add_nil h hB s
 ·exact add_some h1 h2 h3 s hn
def PairsIs(w:World)(lo:Nat)(cells:List Value)(l:List (ByteArray×Ex)):Prop :=
 cells.length=l.length*2∧∀(i:Nat)(a:ByteArray×Ex),l[i]? =some a→cells[i*2]? =some (.string a.1)∧∃(T:TypeId)(v:Value),cells[i*2+1]? =some (Value.iface T v)∧NodeIs w lo (.iface T v) a.2
theorem PairsIs.nil{w:World}{lo:Nat}:PairsIs w lo [] []:=⟨rfl,fun i a h=>by simp at h⟩
theorem PairsIs.extG{w w':World}{lo:Nat}{S:Nat→Prop}{vals:List Value}{l:List (ByteArray×Ex)}(h:PairsIs w lo vals l)(he:Ext S w w')(hs:∀d,S d→∀T c fr,w.heap[d]? =some (.cells c T fr)→T≠136∧T≠221∧T≠316):PairsIs w' lo vals l :=
 ⟨h.1,fun i a hi=>by obtain⟨h0,T,v,h1,h2⟩:=h.2 i a hi;exact⟨h0,T,v,h1,h2.extG he hs⟩⟩
theorem PairsIs.ext{w w':World}{lo:Nat}{S:Nat→Prop}{vals:List Value}{l:List (ByteArray×Ex)}(h:PairsIs w lo vals l)(he:Ext S w w')(hs:∀d,S d→Soft w lo d):PairsIs w' lo vals l :=
 ⟨h.1,fun i a hi=>by obtain⟨h0,T,v,h1,h2⟩:=h.2 i a hi;exact⟨h0,T,v,h1,h2.ext he hs⟩⟩
theorem PairsIs.keep{w w':World}{lo:Nat}{S:Nat→Prop}{vals:List Value}{l:List (ByteArray×Ex)}(h:PairsIs w lo vals l)(he:Ext S w w')(hs:∀d,S d→d<lo):PairsIs w' lo vals l:=h.ext he (fun d hd=>.inl (hs d hd))
theorem PairsIs.later{w w':World}{lo:Nat}{vals:List Value}{l:List (ByteArray×Ex)}(h:PairsIs w lo vals l)(hb:Below w.heap.size w w'):PairsIs w' lo vals l:=h.ext (S:=fun _=>False) (.below hb) (fun _ k=>k.elim)
theorem PairsIs.grow{w w':World}{lo:Nat}{vals:List Value}{l:List (ByteArray×Ex)}{base:Nat}{e:TypeId}{size:Nat}{v:Value}{n:Nat}{xs:List Value}(h:PairsIs w lo vals l)(ho:w.ownsRow base e size v n xs)(hg:w.grownBy w' v.ownBlock)(he:e≠136∧e≠221∧e≠316)(he':e≠348:=by decide):PairsIs w' lo vals l :=
 ⟨h.1,fun i a hi=>by obtain⟨h0,T,v,h1,h2⟩:=h.2 i a hi;exact⟨h0,T,v,h1,h2.grow ho hg he he'⟩⟩
theorem PairsIs.snoc{w:World}{lo:Nat}{vals:List Value}{l:List (ByteArray×Ex)}{k:ByteArray}{T:TypeId}{v:Value}{x:Ex}(h:PairsIs w lo vals l)(hx:NodeIs w lo (.iface T v) x):PairsIs w lo (vals++[.string k,.iface T v]) (l++[(k,x)]):=by
 obtain⟨hlen,h⟩:=h;refine⟨by simp[hlen];omega,fun i a hi=>?_⟩;by_cases hl:i<l.length
 ·rw[List.getElem?_append_left hl]at hi
  obtain⟨h0,T,v,h1,h2⟩:=h i a hi;exact⟨by rw[List.getElem?_append_left (by omega)];exact h0,T,v,by rw[List.getElem?_append_left (by omega)];exact h1,h2⟩
 ·rw[List.getElem?_append_right (by omega)]at hi
  have h0:i=l.length:=by
   rcases Nat.eq_zero_or_pos (i-l.length)with h | h
   ·omega
   ·rw[List.getElem?_eq_none (by simp only[List.length_singleton];omega)]at hi;cases hi
  subst h0;simp at hi;subst hi;refine⟨?_,T,v,?_,hx⟩
  ·rw[List.getElem?_append_right (by omega),show l.length*2-vals.length=0 by omega];rfl
  ·rw[List.getElem?_append_right (by omega),show l.length*2+1-vals.length=1 by omega];rfl
theorem Qc6{w:World}{B n:Nat}{e:TypeId}{s:Value}{vals:List Value}(h:w.ownsRow B e 2 s n vals) :
  (n=0∧s=.slice none 0 0)∨∃g cap c,s=.slice (some ⟨g,0,none⟩) n cap∧B≤g∧w.heap[g]? =some (.cells c e (0,0))∧n≤cap∧cap≤maxLen∧∀i,i<n*2→c[i]? =vals[i]? := by
 obtain⟨h1,h2⟩:=h;rcases h2 with⟨h,h0⟩ | ⟨g,cap,cur,a,b,c,d,e,f,k⟩
 ·exact .inl ⟨h0,h⟩
 ·refine .inr ⟨g,cap,cur,a,b,c,d,e,fun i hi=>?_⟩
  have hk:(cur.toList.take (n*2))[i]? =vals[i]? := by rw[k]
  rw[List.getElem?_take_of_lt (by omega)]at hk;simpa using hk
def mp(l:List (ByteArray×Ex))(i:Nat):List (ByteArray×Value):=(List.range i).map fun j=>((l.getD j (⟨#[]⟩,.set [])).1,.int .i64 (j:Int))
theorem mp_succ(l:List (ByteArray×Ex))(i:Nat):mp l (i+1)=mp l i++[((l.getD i (⟨#[]⟩,.set [])).1,.int .i64 (i:Int))]:=by simp[mp,List.range_succ]
def Distinct(l:List (ByteArray×Ex)):Prop:=∀i j:Nat,j<i→i<l.length→((l.getD i (⟨#[]⟩,.set [])).1.toList==(l.getD j (⟨#[]⟩,.set [])).1.toList)=false
theorem mp_find{l:List (ByteArray×Ex)}(h:Distinct l){i:Nat}(hi:i<l.length):(mp l i).find? (fun p=>(l.getD i (⟨#[]⟩,.set [])).1.toList==p.1.toList)=none:=by
 rw[List.find?_eq_none];intro p hp;simp only[mp,List.mem_map,List.mem_range]at hp;obtain⟨j,hj,rfl⟩:=hp;simp only[h i j hj hi];decide
theorem take_two{α:Type}{l:List α}{i:Nat}{a b:α}(h0:l[i]? =some a)(h1:l[i+1]? =some b):l.take (i+2)=l.take i++[a,b]:=by
 have e1:l.take (i+1)=l.take i++[a]:=by rw[List.take_succ,h0];rfl
 have e2:l.take (i+1+1)=l.take (i+1)++[b]:=by rw[List.take_succ,h1];rfl
 rw[show i+2=i+1+1 by rfl,e2,e1,List.append_assoc];rfl
def RcRel(w:World)(n:Nat)(l:List (ByteArray×Ex))(cells:List Value)(s:Value)(wr:World):Prop :=
 ∃(i:Nat)(rv:Value),s=.int .i64 (i:Int)∧i≤n∧wr.heap[w.heap.size]? =some (.cells #[.nilIface] 299 (0,0))∧wr.heap[w.heap.size+1]? =some (.cells #[rv] 219 (0,0))∧wr.ownsRow (w.heap.size+1+1+1) 221 2 rv i (cells.take (i*2))∧Qb0 wr (w.heap.size+1+1) (mp l i)∧Below w.heap.size w wr
theorem record_c{w:World}{base B:Nat}{s:Value}{cells:List Value}{l:List (ByteArray×Ex)}(hbs:base≤w.heap.size)(ho:w.ownsRow B 439 2 s l.length cells)(hc:PairsIs w base cells l)(hd:Distinct l)(hl:l.length≤1000000):Calls prog 305 #[s] w (Qet base w (.recd l)):=by
 obtain⟨n,hn⟩:∃n,n=l.length:=⟨_,rfl⟩
 obtain⟨p,cap,rfl,hrow⟩:∃p cap,s=.slice p n cap∧(n=0∨∃g c,p=some ⟨g,0,none⟩∧w.heap[g]? =some (.cells c 439 (0,0))∧n≤cap∧∀i,i<n*2→c[i]? =cells[i]?):=by
  rcases Qc6 ho with⟨h1,h2⟩ | ⟨g,cap,c,h1,_,h2,h3,_,h4⟩
  ·exact⟨none,0,by rw[h2,hn,h1],.inl (by omega)⟩
  ·exact⟨_,cap,by rw[hn];exact h1,.inr ⟨g,c,rfl,h2,by omega,by rw[hn];exact h4⟩⟩
 have hln:n≤1000000:=by omega
 have ht:prog.underlying 441=some (.map 131 3):=by kernel_rfl
 have hkt:prog.underlying 131=some .string:=by kernel_rfl
 have hz:∀w,(zeroValue 3).run prog w=.ok (.int .i64 0) w:=fun w=>by kernel_rfl
 have hmk:∀(k:Int)(w:World),(Instr.makeMap 441 (some (.int .i64 k))).run prog w=.ok (.map (some w.heap.size)) (w.alloc (.map #[] 0)):=fun k w=>by kernel_rfl
 have HN:=Hi hn;clear ho hn hl;go_enter func305,ntmps305
 go_upto_region 3 with(fail)
 obtain⟨w1,hw⟩:∃w1,((w.alloc (.cells #[.nilIface] 299)).alloc (.cells #[.slice none 0 0] 219)).alloc (.map #[] 0)=w1:=⟨_,rfl⟩
 rw[hw];have hb:Below w.heap.size w w1:=by rw[←hw];exact((Qab w _).alloc (by simp) _).alloc (by simp;omega) _
 have hR1:w1.heap[w.heap.size]? =some (.cells #[.nilIface] 299 (0,0)):=by rw[←hw];exact Qaf (Qaf (Xa _ _) _) _
 have hE1:w1.heap[w.heap.size+1]? =some (.cells #[.slice none 0 0] 219 (0,0)):=by rw[←hw];exact Qaf (Qah (by simp) _) _
 have hM1:Qb0 w1 (w.heap.size+1+1) (mp l 0):=by rw[←hw];exact Qah (by simp) _
 clear hw hmk
 go_upto_region 4 with(fail)
 go_loopw [14] (fun s wr=>RcRel w n l cells s wr) (fun s _=>(n-intOf s).toNat)
 case atStart=>exact⟨0,_,rfl,by omega,hR1,hE1,⟨by simp,.inl ⟨rfl,rfl⟩⟩,hM1,hb⟩
 case round =>
  clear hR1 hE1 hM1 hb;obtain⟨wo,rfl⟩:∃wo:World,wo=wr:=⟨_,rfl⟩
  obtain⟨i,rv,rfl,hi,hRo,hEo,hOo,hMo,hbl⟩:=hrel;have hso:=hbl.size;have hlM:=Qad hMo;by_cases hin:i<n
  ·obtain⟨g,c,rfl,hg,hcap,hcc⟩:=hrow.resolve_left (by omega)
   have hil:i<l.length:=by rw[←HN.out];exact hin
   obtain⟨a,hk⟩:∃a,l[i]? =some a:=⟨l[i],by simp[hil]⟩
   have hga:l.getD i (⟨#[]⟩,.set [])=a:=by simp[List.getD,hk]
   obtain⟨k,x⟩:=a;obtain⟨h0,T,v,h1,hv⟩:=hc.2 i _ hk;simp only at h0;obtain⟨pr,cr,rfl⟩:∃pr cr,rv=.slice pr i cr:=by
    rcases Qc6 hOo with⟨h1,h2⟩ | ⟨g,cap,c,h1,_⟩
    ·exact⟨none,0,by rw[h2,h1]⟩
    ·exact⟨_,_,h1⟩
   have hlg:=Qad hg;have q0:wo.cell? ⟨g,i*2,none⟩=some (.string k):=Qaa ((hbl.block _ hlg).trans hg) ((hcc _ (by omega)).trans h0);have q1:wo.cell? ⟨g,i*2+1,none⟩=some (.iface T v):=Qaa ((hbl.block _ hlg).trans hg) ((hcc _ (by omega)).trans h1);have htk:cells.take ((i+1)*2)=cells.take (i*2)++[.string k,.iface T v]:=by rw[Nat.add_mul];exact take_two h0 h1
   have HTK:=Hi htk;have hfn:=mp_find hd hil;rw[hga]at hfn;have HFN:=Hi hfn;clear hrow hcc h0 h1 hg htk hfn
   go_upto_region 6 with(fail)
   obtain⟨w2,hw⟩:∃w2,wo.alloc (.cells #[.string k,.iface T v] 439)=w2:=⟨_,rfl⟩
   rw[hw];have hb2:Below wo.heap.size wo w2:=by rw[←hw];exact Qab _ _
   have hx2:w2.heap[wo.heap.size]? =some (.cells #[.string k,.iface T v] 439 (0,0)):=by rw[←hw];exact Xa _ _
   have hsz:wo.heap.size+1≤w2.heap.size:=by rw[←hw];simp
   have hR2:=Bk hb2 hRo;have hE2:=Bk hb2 hEo;have hM2:Qb0 w2 (w.heap.size+1+1) (mp l i):=(hb2.block _ hlM).trans hMo;have hO2:=Qaj (S:=fun _=>False) hOo (.below hb2) (fun _ h=>h.elim);have hbl2:Below w.heap.size w w2:=hbl.trans (hb2.mono hso);clear hw hRo hEo hMo hOo hbl q0 q1;have hlk:=Qdh ht hkt (hz w2) hM2 k;rw[HFN.out]at hlk;simp only at hlk;obtain⟨w3,hw3⟩:∃w3,w3=setMap w2 (w.heap.size+1+1) (entv (mp l i++[(k,.int .i64 (i:Int))]) 0).toArray (mp l i++[(k,Value.int .i64 (i:Int))]).length:=⟨_,rfl⟩
   have hins:(Instr.mapUpdate 441 (.map (some (w.heap.size+1+1))) (.string k) (.int .i64 (i:Int))).run prog w2=.ok () w3:=by rw[hw3];exact QeV ht hkt hM2 k _ HFN.out
   have k0:w2.cell? ⟨wo.heap.size,0,none⟩=some (.string k):=Qaa hx2 rfl;have k1:w2.cell? ⟨wo.heap.size,1,none⟩=some (.iface T v):=Qaa hx2 rfl;have e0:w2.cell? ⟨w.heap.size+1,0,none⟩=some (.slice pr i cr):=Qaa hE2 rfl;have hM3:Qb0 w3 (w.heap.size+1+1) (mp l (i+1)):=by
    rw[hw3,mp_succ,hga];exact Qc5 hM2 _ _
   have hR3:w3.heap[w.heap.size]? =some (.cells #[.nilIface] 299 (0,0)):=by rw[hw3];exact Qcm hR2 (by omega) _ _
   have hE3:w3.heap[w.heap.size+1]? =some (.cells #[.slice pr i cr] 219 (0,0)):=by rw[hw3];exact Qcm hE2 (by omega) _ _
   have hx3:w3.heap[wo.heap.size]? =some (.cells #[.string k,.iface T v] 439 (0,0)):=by rw[hw3];exact Qcm hx2 (by omega) _ _
   have hX3:Ext (·=w.heap.size+1+1) w2 w3:=by rw[hw3];exact(Ext.refl (·=w.heap.size+1+1) _).setMap (.inl rfl) _ _ (fun⟨u,hu⟩=>by rw[hM2]at hu;cases hu)
   have hO3:=Qcc hO2 hX3 (fun d hd c fr h=>by subst hd;have h2:=hM2;unfold Qb0 at h2;rw[h]at h2;cases h2);have hbl3:Below w.heap.size w w3:=by rw[hw3];exact((Ext.below (S:=fun _=>False) hbl2).setMap (.inr (by omega)) _ _ (fun⟨u,hu⟩=>by rw[hM2]at hu;cases hu)).toBelow (fun _ h=>h.elim) (Xb _)
   have hs3:w2.heap.size≤w3.heap.size:=hX3.size;have HH2:=Hi hM2;clear hw3 hR2 hE2 hx2 hX3 hO2 hbl2 hM2 hb2
   go_upto_region 10 with(fail)
   clear hlk hins k0 k1 e0;have k0:w3.cell? ⟨wo.heap.size,0,none⟩=some (.string k):=Qaa hx3 rfl;have k1:w3.cell? ⟨wo.heap.size,1,none⟩=some (.iface T v):=Qaa hx3 rfl;have e0:w3.cell? ⟨w.heap.size+1,0,none⟩=some (.slice pr i cr):=Qaa hE3 rfl;have hb4:=Qab w3 (.cells #[.string k,.iface T v] 221);have n0:∀j u,[Value.string k,Value.iface T v][j]? =some u→(w3.alloc (.cells #[.string k,.iface T v] 221)).cell? ⟨w3.heap.size,j,none⟩=some u:=by
    intro j u hj;exact Qaa (Xa _ _) (by simpa using hj)
   have hO4:=Qaj (S:=fun _=>False) hO3 (.below hb4) (fun _ h=>h.elim);have hR4:=Qaf hR3 (.cells #[.string k,.iface T v] 221);have hE4:=Qaf hE3 (.cells #[.string k,.iface T v] 221);have hM4:(w3.alloc (.cells #[.string k,.iface T v] 221)).heap[w.heap.size+1+1]? =some _:=Qaf hM3 (.cells #[.string k,.iface T v] 221);have hbl4:=hbl3.alloc (by omega) (.cells #[.string k,.iface T v] 221);clear hO3 hR3 hE3 hM3 hbl3 hx3
   go_wp2_with(at_builtin;refine appG sl217 rfl _ _ rfl (w.heap.size+1+1+1) _ _ _ rfl hO4 _ [.string k,.iface T v] rfl rfl n0 (fun v hv=>by simp at hv;rcases hv with rfl | rfl<;>rfl) (by unfold maxLen;omega) (by omega) (by simp;omega) ?_)
   intro v9 w9 hO9 hg9 _;have hR9:=QaL hR4 hO4 hg9 (by omega);have hE9:=QaL hE4 hO4 hg9 (by omega);have hM9:=QaL hM4 hO4 hg9 (by omega);have hX9:=(Ext.below (S:=fun _=>False) hbl4).grow hO4 hg9 (by omega);have e9:w9.cell? ⟨w.heap.size+1,0,none⟩=some (.slice pr i cr):=Qaa hE9 rfl;have f9:w9.frozen? ⟨w.heap.size+1,0,none⟩=false:=Qae hE9 0;rw[←HTK.out]at hO9;obtain⟨p9,c9,rfl⟩:∃p9 c9,v9=.slice p9 (i+1) c9:=by
    rcases Qc6 hO9 with⟨h1,h2⟩ | ⟨g,cap,c,h1,_⟩
    ·omega
    ·exact⟨_,_,h1⟩
   have HA:=Hi hR9;have HB:=Hi hE9;have HC2:=Hi hM9;clear hO4 hR4 hE4 hM4 hbl4 hR9 hE9 hM9 hg9 k0 k1 e0 n0 hb4;go_wp2;go_roundw
   case rel=>exact⟨i+1,_,rfl,by omega,Qag HA.out (by omega) _,Qac (o:=0) HB.out _,Qdo hO9 HB.out (by decide) _,Qag HC2.out (by omega) _,(hX9.set (p:=⟨w.heap.size+1,0,none⟩) (.inr (show _≤w.heap.size+1 by omega)) _).toBelow (fun _ h=>h.elim) (Xb _)⟩
   case measure=>simp[intOf];omega
  ·obtain rfl:i=n:=by omega
   obtain⟨p2,c2,rfl,hrow2⟩:∃p2 c2,rv=.slice p2 i c2∧Row2At wo base 221 p2 i (fun j=>.string (l.getD j (⟨#[]⟩,.set [])).1) (fun j=>cells.getD (j*2+1) .nilIface):=by
    rcases Qc6 hOo with⟨h1,h2⟩ | ⟨g,cap,c,h1,hge,hg,_,_,hcc⟩
    ·exact⟨none,0,by rw[h2,h1],.inl h1⟩
    ·refine⟨_,_,h1,.inr ⟨g,0,c,_,rfl,by omega,hg,fun j hj=>?_⟩⟩
     obtain⟨a,hk⟩:∃a,l[j]? =some a:=⟨l[j]'(by rw[←HN.out];exact hj),by simp[←HN.out,hj]⟩
     obtain⟨h0,T,v,h1,hv⟩:=hc.2 j _ hk;rw[Nat.zero_add,hcc _ (by omega),hcc _ (by omega),List.getElem?_take_of_lt (by omega),List.getElem?_take_of_lt (by omega)];exact⟨by rw[h0];simp[List.getD,hk],by simp[List.getD,h1]⟩
   have hS:NodeIs wo base (.iface 219 (.agg #[.slice p2 i c2])) (.recd l):=by
    have hi2:=HN.out;rw[hi2]at hrow2 ⊢;refine .recd l _ _ _ hrow2 (fun j a hj=>?_);obtain⟨h0,T,v,h1,hv⟩:=(hc.later hbl).2 j _ hj;rw[show cells.getD (j*2+1) .nilIface=.iface T v by simp[List.getD,h1]];exact hv
   have e0:wo.cell? ⟨w.heap.size+1,0,none⟩=some (.slice p2 i c2):=Qaa hEo rfl;have HS:=Hi hS;have HR:=Hi hRo;clear hEo hOo hMo hS hRo hrow2 hrow
   go_wp2_with fail
   refine(Qar _ _ _).mono ?_;rintro e w2⟨rfl,hb⟩;obtain⟨z1,z2,z3⟩:=Qan hb HR.out;have hE:=Qap (w:=w) (R:=w.heap.size) (v:=.iface 219 (.agg #[.slice p2 i c2])) (Ext.below hbl) hb (by omega);have HE:=Hi (Xc hE ((HS.out.later hb).store (o:=0) z3.out (by decide) (.iface 219 (.agg #[.slice p2 i c2]))));clear hb hE e0;go_wp2;exact Qaq (R:=w.heap.size) _ 2 (by kernel_rfl) rfl rfl (Qac (o:=0) z3.out _) ⟨HE.out.1,_,_,rfl,HE.out.2⟩
theorem MsIs.ext{S:Nat→Prop}{w w':World}{B bx:Nat}{keys:List ByteArray}(h:MsIs w B bx keys)(he:Ext S w w')(hs:∀d,S d→d≠bx∧d<B):MsIs w' B bx keys:=by
 rcases h with⟨h1,h2⟩ | ⟨b,h1,h2,h3⟩
 ·exact .inl ⟨h1,he.heap (fun h=>(hs _ h).1 rfl) h2⟩
 ·exact .inr ⟨b,he.heap (fun h=>(hs _ h).1 rfl) h1,h2,he.heap (fun h=>by have:=(hs _ h).2;omega) h3⟩
theorem MsIs.later{w w':World}{B bx:Nat}{keys:List ByteArray}(h:MsIs w B bx keys)(hb:Below w.heap.size w w'):MsIs w' B bx keys:=h.ext (S:=fun _=>False) (.below hb) (fun _ k=>k.elim)
theorem MsIs.grow{w w':World}{B bx:Nat}{keys:List ByteArray}{base:Nat}{e:TypeId}{size:Nat}{v:Value}{n:Nat}{xs:List Value}(h:MsIs w B bx keys)(ho:w.ownsRow base e size v n xs)(hg:w.grownBy w' v.ownBlock)(hT:283≠e):MsIs w' B bx keys:=by
 rcases h with⟨h1,h2⟩ | ⟨b,h1,h2,h3⟩
 ·exact .inl ⟨h1,QaR h2 ho hg hT⟩
 ·exact .inr ⟨b,QaR h1 ho hg hT,h2,(hg.block b (Qad h3) (fun q=>by obtain⟨_,c',hc⟩:=Qa5 ho q.symm;unfold Qb0 at h3;rw[h3]at hc;cases hc)).trans h3⟩
theorem Qbw{B bx:Nat}{w:World}(hx:∃v,w.heap[bx]? =some (.cells #[v] 283 (0,0))){d:Nat}(hd:SM B bx w d){T:TypeId}{c:Array Value}{fr:Nat×Nat}(h:w.heap[d]? =some (.cells c T fr)):T=283:=by
 obtain⟨v,hx⟩:=hx;rcases hd with rfl | ⟨_,es,k,hm⟩
 ·rw[hx]at h;cases h;rfl
 ·rw[hm]at h;cases h
theorem MsIs.box{w:World}{B bx:Nat}{keys:List ByteArray}(h:MsIs w B bx keys):∃v,w.heap[bx]? =some (.cells #[v] 283 (0,0)):=by obtain⟨v,h,_⟩:=h.val;exact⟨v,h⟩
theorem QgS(l:List (ByteArray×Ex))(k:ByteArray):((l.map (·.1)).any fun x=>k.toList==x.toList)=l.any fun p=>p.1.toList==k.toList:=by
 rw[List.any_map]
 congr 1
 funext p
 show(k.toList==p.1.toList)=(p.1.toList==k.toList);exact Bool.beq_comm
theorem Distinct.snoc{l:List (ByteArray×Ex)}{k:ByteArray}{x:Ex}(h:Distinct l)(hn:(l.any fun p=>p.1.toList==k.toList)=false):Distinct (l++[(k,x)]):=by
 intro i j hj hi;rw[List.length_append,List.length_singleton]at hi;by_cases hl:i<l.length
 ·simp only[List.getD,List.getElem?_append_left hl,List.getElem?_append_left (show j<l.length by omega)]
  exact h i j hj hl
 ·obtain rfl:i=l.length:=by omega
  simp only[List.getD,List.getElem?_append_left hj];simp only[List.getElem?_append_right (Xb _),Nat.sub_self,List.getElem?_cons_zero,Option.getD_some];rw[List.any_eq_false]at hn;have:=hn l[j] (by simp);simp only[List.getElem?_eq_getElem hj,Option.getD_some];rw[Bool.beq_comm];simpa using this
theorem QbS{w0 w:World}{bp base:Nat}{ts:Toks}(hp:PS w0 bp base ts)(he:Ext (fun _=>False) w0 w)(s:ByteArray)(args:Value) :
  Calls prog 95 #[.pointer (some ⟨bp,0,none⟩),.string s,args] w fun e w'=>∃T,∃x:EVal base w' T,e=.returned (.iface T x.1)∧Ext (fun _=>False) w0 w':=by
 refine(Qay (hp.ext he (fun _ k=>k.elim)) s args).mono ?_;rintro e w'⟨T,x,rfl,hb⟩;exact⟨T,x,rfl,he.trans (.below hb)⟩
theorem entry_lt{L:Lex}{E:Toks→Option (Ex×Toks)}(hE:Sh E){ts us:Toks}{y:ByteArray×Ex}(h:Wf ts)(he:entry L E ts=some (y,us)):us.length<ts.length:=by
 rw[entry]at he;split at he
 ·cases he
 ·split at he
  ·cases he
  ·rename_i vs hv
   have h1:=QaC h.adv hv;split at he
   ·cases he
   ·rename_i y zs hz
    cases he;have h2:=(hE _ _ _ (h1.wf h.adv) hz).2;have h3:=(h1.trans (Qam h)).len;omega
def recE(L:Lex)(E:Toks→Option (Ex×Toks))(ts:Toks):Option (Ex×Toks):=match recd L E ts with
 | none=>none
 | some (l,us)=>some (.recd l,us)
structure RKeep(w0:World)(R V:Nat)(w:World):Prop where
 r:∃x,w.heap[R]? =some (.cells #[x] 299 (0,0))
 v:w.heap[V]? =some (.cells #[.nilIface] 299 (0,0))
 ne:R≠V
 x:Ext (·=R) w0 w
theorem RKeep.start{w:World}{R V:Nat}(hr:w.heap[R]? =some (.cells #[.nilIface] 299 (0,0)))(hv:w.heap[V]? =some (.cells #[.nilIface] 299 (0,0)))(h:R≠V):RKeep w R V w:=⟨⟨_,hr⟩,hv,h,.refl _ _⟩
theorem RKeep.drew{w0 w:World}{R V:Nat}(h:RKeep w0 R V w):RKeep w0 R V w.drew:=⟨h.r,h.v,h.ne,h.x.drew⟩
theorem RKeep.alloc{w0 w:World}{R V:Nat}(h:RKeep w0 R V w)(o:Obj):RKeep w0 R V (w.alloc o):=by
 obtain⟨x,hx⟩:=h.r;exact⟨⟨x,Qaf hx _⟩,Qaf h.v _,h.ne,h.x.alloc o⟩
theorem RKeep.set{w0 w:World}{R V:Nat}(h:RKeep w0 R V w)(u:Value):RKeep w0 R V (w.setCell ⟨R,0,none⟩ u):=by
 obtain⟨x,hx⟩:=h.r;exact⟨⟨u,Qac (o:=0) hx u⟩,Qag h.v (fun e=>h.ne e.symm) u,h.ne,h.x.set (p:=⟨R,0,none⟩) (.inl rfl) u⟩
theorem RKeep.cell{w0 w:World}{R V:Nat}(h:RKeep w0 R V w):w.cell? ⟨V,0,none⟩=some .nilIface:=Qaa h.v rfl
theorem RKeep.old{w0 w:World}{R V:Nat}(h:RKeep w0 R V w):∃x,w.cell? ⟨R,0,none⟩=some x∧w.frozen? ⟨R,0,none⟩=false:=by
 obtain⟨x,hx⟩:=h.r;exact⟨x,Qaa hx rfl,Qae hx 0⟩
theorem RKeep.below{w0 w w':World}{R V:Nat}(h:RKeep w0 R V w)(hb:Below w.heap.size w w'):RKeep w0 R V w':=by
 obtain⟨x,hx⟩:=h.r;exact⟨⟨x,Bk hb hx⟩,(hb.block _ (Qad h.v)).trans h.v,h.ne,h.x.trans (.below hb)⟩
theorem QgT{w0 w:World}{bp base R V:Nat}{t:Tok}{ts:Toks}(hp:PS w0 bp base (t::ts))(h:RKeep w0 R V w)(hR:base≤R) :
  Calls prog 53 #[.pointer (some ⟨bp,0,none⟩)] w fun e w'=>e=.returned t.val∧RKeep w0 R V w':=by
 refine(Qa7 (hp.ext h.x (fun d k=>by subst k;exact hR))).mono ?_;rintro e w'⟨rfl,hb⟩;exact⟨rfl,h.below hb⟩
theorem QeW{w0 w:World}{bp base R V:Nat}{ts:Toks}(hp:PS w0 bp base ts)(h:RKeep w0 R V w)(hR:base≤R)(s:ByteArray)(args:Value) :
  Calls prog 95 #[.pointer (some ⟨bp,0,none⟩),.string s,args] w fun e w'=>∃T,∃x:EVal base w' T,e=.returned (.iface T x.1)∧RKeep w0 R V w':=by
 refine(Qay (hp.ext h.x (fun d k=>by subst k;exact hR)) s args).mono ?_;rintro e w'⟨T,x,rfl,hb⟩;exact⟨T,x,rfl,h.below hb⟩
def RdRel(m:Nat→List (ByteArray×Ex)→Toks→Option (List (ByteArray×Ex)×Toks))(bp base N:Nat)(w:World)(Rm:Option (List (ByteArray×Ex)×Toks))(s:Value)(wr:World):Prop :=
 ∃g acc cells vs,m g acc vs=Rm∧vs.length<g∧Wf vs∧vs.length≤N∧acc.length+vs.length≤N∧PS wr bp base vs∧wr.ownsRow (w.heap.size+1+1+1) 439 2 s acc.length cells∧PairsIs wr base cells acc∧Distinct acc∧wr.heap[w.heap.size]? =some (.cells #[.nilIface] 299 (0,0))∧wr.heap[w.heap.size+1]? =some (.cells #[.nilIface] 299 (0,0))∧MsIs wr (w.heap.size+1+1+1) (w.heap.size+1+1) (acc.map (·.1))∧Ext (·=bp) w wr
theorem record_w{L:Lex}(hL:LexC L){E:Toks→Option (Ex×Toks)}{bp base N:Nat}(hE:Sh E)(hC:FnC 149 E bp base N):FnC 280 (recE L E) bp base N:=by
 intro w ts hp hwf hN hbs;have hbb:=hp.hbp;have h15:=hp.h15;have hlen:=hp.len;have HC:=Hi hC;have HE:=Hi hE;have HLX:=Hi hL;clear hC hE hL;go_enter func280,ntmps280
 go_upto_region 4 with(fail)
 obtain⟨w1,hw⟩:∃w1,(((w.alloc (.cells #[.nilIface] 299)).alloc (.cells #[.nilIface] 299)).alloc (.cells #[.map none] 283))=w1:=⟨_,rfl⟩
 rw[hw];have hF:Below w.heap.size w w1:=by rw[←hw];exact((Qab w _).alloc (by simp) _).alloc (by simp;omega) _
 have hR1:w1.heap[w.heap.size]? =some (.cells #[.nilIface] 299 (0,0)):=by rw[←hw];exact Qaf (Qaf (Qah (by simp) _) _) _
 have hV1:w1.heap[w.heap.size+1]? =some (.cells #[.nilIface] 299 (0,0)):=by rw[←hw];exact Qaf (Qah (by simp) _) _
 have hS01:w1.heap[w.heap.size+1+1]? =some (.cells #[.map none] 283 (0,0)):=by rw[←hw];exact Qah (by simp) _
 have hs1:w.heap.size+3≤w1.heap.size:=by rw[←hw];simp
 clear hw;have hX1:Ext (·=bp) w w1:=.below hF;have hp1:=hp.below hF;clear hp;clear hF
 go_loopw [5] (fun s wr=>RdRel (Qbz L E) bp base ts.length w (Qbz L E (ts.length+1) [] ts) s wr) (fun _ wr=>left wr bp)
 case atStart=>exact⟨ts.length+1,[],[],ts,rfl,by omega,hwf,by omega,by simp,hp1,⟨rfl,.inl ⟨rfl,rfl⟩⟩,.nil,fun i j _ h=>absurd h (Nat.not_lt_zero _),hR1,hV1,.inl ⟨rfl,hS01⟩,hX1⟩
 case round =>
  clear hp1 hR1 hV1 hS01 hX1;obtain⟨wo,rfl⟩:∃wo:World,wo=wr:=⟨_,rfl⟩
  obtain⟨g,acc,cells,vs,hg,hgl,hvw,hvN,haN,hp_wo,hO_wo,hm_wo,hdis,hR_wo,hV_wo,hS_wo,hX_wo⟩:=hrel;have HG:=Hi hg;clear hg;cases g with
  | zero=>omega
  | succ g =>
  obtain⟨u,q,rfl⟩:∃u q,vs=u::q:=by cases vs with | nil=>exact absurd rfl hp_wo.ne | cons u q=>exact⟨u,q,rfl⟩
  have HLF:=Hi hp_wo.left;have hsz_wo:=hX_wo.size;have hul:0<(u::q).length:=by simp
  have ltV:=Qad hV_wo;obtain⟨vx,hvx⟩:=hS_wo.box;have ltS:=Qad hvx;clear hvx
  go_wp2_with fail
  refine(Qa7 hp_wo).mono ?_;rintro e w2⟨rfl,hF⟩;have hS2:=hS_wo.later hF;have hm2:=hm_wo.later hF;have hR2:=Bk hF hR_wo;have hV2:=Bk hF hV_wo;have hO2:=Qaj (S:=fun _=>False) hO_wo (.below hF) (fun _ h=>h.elim);have hs2:=hF.size;have hX2:=hX_wo.trans (.below hF);have hp2:=hp_wo.below hF;clear hm_wo hR_wo hV_wo hO_wo hX_wo hp_wo hS_wo;clear hF
  go_upto_region 5 with(fail)
  obtain⟨w3,hw⟩:∃w3,w2.alloc (.cells u.row 122)=w3:=⟨_,rfl⟩
  rw[hw];have hF:Below w2.heap.size w2 w3:=by rw[←hw];exact Qab _ _
  have hK3:w3.heap[w2.heap.size]? =some (.cells u.row 122 (0,0)):=by rw[←hw];exact Xa _ _
  have hs3:w2.heap.size+1≤w3.heap.size:=by rw[←hw];simp
  clear hw;have hS3:=hS2.later hF;have hm3:=hm2.later hF;have hR3:=Bk hF hR2;have hV3:=Bk hF hV2;have hO3:=Qaj (S:=fun _=>False) hO2 (.below hF) (fun _ h=>h.elim);have hX3:=hX2.trans (.below hF);have hp3:=hp2.below hF;clear hm2 hR2 hV2 hO2 hX2 hp2 hS2;clear hF;have c_hK_5:=Qaa (o:=5) hK3 rfl;cases ht:(u.tx.toList==[125])with
  | true =>
   go_wp2_with fail
   refine(Qaz hp3).mono ?_;rintro e w4⟨rfl,hp4,hF⟩;have hS4:=hS3.ext hF (fun d hd=>by subst hd;omega);have hm4:=hm3.keep hF (fun d hd=>by omega);have hR4:=hF.heap (by omega) hR3;have hV4:=hF.heap (by omega) hV3;have hK4:=hF.heap (by omega) hK3;have hO4:=Qaj hO3 hF (fun d hd=>by omega);have hs4:=hF.size;have hX4:=hX3.trans hF;clear hm3 hR3 hV3 hK3 hO3 hX3 hp3 c_hK_5 hS3;clear hF
   go_wp2_with fail
   refine(record_c (by omega) hO4 hm4 hdis (by omega)).mono ?_;rintro e w5⟨hF,T9,v9,rfl,hz5⟩;clear hm4 hO4;clear hS4;have hR5:=Bk hF hR4;have hV5:=Bk hF hV4;have hK5:=Bk hF hK4;have hs5:=hF.size;have hX5:=hX4.trans (.below hF);have hp5:=hp4.below hF;clear hR4 hV4 hK4 hX4 hp4;clear hF;have c_hR_0:=Qaa (o:=0) hR5 rfl;have f_hR:=Qae hR5 0;have lt_hR:=Qad hR5;have HR:=Hi (show recE L E ts=some (Ex.recd acc,adv (u::q))by unfold recE;rw[show recd L E ts=Qbz L E (ts.length+1) [] ts from rfl,←HG.out,Qbz];simp[tx,ht])
   have HB:=Hi hR5;clear hR5;go_wp2;refine Qai (R:=w.heap.size) _ 2 3 (by kernel_rfl) rfl rfl rfl (Qac (o:=0) HB.out _) ?_;exact(Qal HR.out (hX5.set (p:=⟨w.heap.size,0,none⟩) (.inr (show _≤w.heap.size by omega)) _) (hp5.set (o:=0) (by omega) _) (NodeIs.store (o:=0) (hz5) HB.out (by decide) _))
  | false =>
   have hnc:=ht;clear ht
   go_wp2_with fail
   refine(entry_w HLX.out HE.out HC.out _ _ hp3 hvw (by omega) (by omega)).mono ?_;rintro e w4⟨hF,hr⟩;have hS4:=hS3.ext hF (fun d hd=>by subst hd;omega);have hm4:=hm3.keep hF (fun d hd=>by omega);have hR4:=hF.heap (by omega) hR3;have hV4:=hF.heap (by omega) hV3;have hK4:=hF.heap (by omega) hK3;have hO4:=Qaj hO3 hF (fun d hd=>by omega);have hs4:=hF.size;have hX4:=hX3.trans hF;clear hm3 hR3 hV3 hK3 hO3 hX3 c_hK_5 hS3
   clear hF;clear hK4;cases hm:entry L E (u::q)with
   | none =>
    rw[hm]at hr;obtain⟨k9,T9,v9,rfl⟩:=hr;have c_hV_0:=Qaa (o:=0) hV4 rfl;have lt_hV:=Qad hV4;have c_hR_0:=Qaa (o:=0) hR4 rfl;have f_hR:∀o,(w4.alloc o).frozen? ⟨w.heap.size,0,none⟩=false:=fun o=>Qae (Qaf hR4 o) 0
    have lt_hR:=Qad hR4;have HR:=Hi (show recE L E ts=none by unfold recE;rw[show recd L E ts=Qbz L E (ts.length+1) [] ts from rfl,←HG.out,Qbz];simp[tx,hnc,hm]);have HB:=Hi hR4;clear hR4;go_wp2;refine Qai (R:=w.heap.size) _ 2 3 (by kernel_rfl) rfl rfl rfl (Qaf (Qac (o:=0) HB.out _) _) ?_;exact(Qak HR.out ((hX4.set (p:=⟨w.heap.size,0,none⟩) (.inr (show _≤w.heap.size by omega)) _).alloc _))
   | some p2 =>
    obtain⟨⟨k,x⟩,us⟩:=p2;rw[hm]at hr;obtain⟨T9,v9,rfl,hp9,hx4⟩:=hr;have hwu:=(QdY HE.out _ _ _ hvw hm).wf hvw;have hl2:us.length<(u::q).length:=entry_lt HE.out hvw hm;have HM:=Hi hm;clear hm
    go_upto_region 11 with(fail)
    obtain⟨w5,hw⟩:∃w5,w4.alloc (.cells #[.iface T9 v9] 299)=w5:=⟨_,rfl⟩
    rw[hw];have hF:Below w4.heap.size w4 w5:=by rw[←hw];exact Qab _ _
    have hB5:w5.heap[w4.heap.size]? =some (.cells #[.iface T9 v9] 299 (0,0)):=by rw[←hw];exact Xa _ _
    have hs5:w4.heap.size+1≤w5.heap.size:=by rw[←hw];simp
    clear hw;have hS5:=hS4.later hF;have hm5:=hm4.later hF;have hx5:=hx4.later hF;have hR5:=Bk hF hR4;have hV5:=Bk hF hV4;have hO5:=Qaj (S:=fun _=>False) hO4 (.below hF) (fun _ h=>h.elim);have hX5:=hX4.trans (.below hF);have hp5:=hp9.below hF;clear hm4 hx4 hR4 hV4 hO4 hX4 hp9 hS4;clear hF;obtain⟨vx,hvx,hmv⟩:=hS5.val;have c_S:=Qaa (o:=0) hvx rfl;clear hvx
    go_wp2_with fail
    refine(QcT hmv k).mono ?_;rintro e w6⟨rfl,hF⟩;have hS6:=hS5.later hF;have hm6:=hm5.later hF;have hx6:=hx5.later hF;have hR6:=Bk hF hR5;have hV6:=Bk hF hV5;have hB6:=Bk hF hB5;have hO6:=Qaj (S:=fun _=>False) hO5 (.below hF) (fun _ h=>h.elim);have hs6:=hF.size;have hX6:=hX5.trans (.below hF);have hp6:=hp5.below hF;clear hm5 hx5 hR5 hV5 hB5 hO5 hX5 hp5 c_S hS5;clear hF;clear hmv;rw[QgS];cases hd:(acc.any fun p=>p.1.toList==k.toList)with
    | true =>
     have c_hR_0:=Qaa (o:=0) hR6 rfl;have c_hV_0:=Qaa (o:=0) hV6 rfl;have lt_hR:=Qad hR6;have lt_hV:=Qad hV6;have HR:=Hi (show recE L E ts=none by unfold recE;rw[show recd L E ts=Qbz L E (ts.length+1) [] ts from rfl,←HG.out,Qbz];simp[tx,hnc,HM.out,hd]);have HB:=Hi (Xc hR6 hV6);clear hR6 hV6 hB6 hm6 hx6 hO6 hS6;clear hd HM HG
     go_upto_region 12 with(fail)
     go_region_with(go_at_call 95;refine(QbS (w0:=w6) hp6 ((Ext.refl _ _).alloc _).drew _ _).mono ?_;rintro e wq ⟨T7,v7,rfl,hq⟩;have cq1:=hq.cell (fun k=>k) c_hV_0;have cq2:=hq.cell (fun k=>k) c_hR_0;have cq3:=Qae (hq.heap (fun k=>k) HB.out.1) 0)
     all_goals go_wp2
     all_goals refine Qai (R:=w.heap.size) _ 2 3 (by kernel_rfl) rfl rfl rfl (Qac (o:=0) (hq.heap (fun k=>k) HB.out.1) _) ?_
     all_goals exact Qak HR.out ((hX6.trans' hq (fun _ k=>k.elim)).set (p:=⟨w.heap.size,0,none⟩) (.inr (Xb _)) _)
    | false =>
     have hdis2:=hdis.snoc (x:=x) hd;have hak:((acc.map (·.1)).any fun y=>k.toList==y.toList)=false:=by rw[QgS];exact hd
     go_wp2_with fail
     refine(add_c hS6 (by omega) k hak).mono ?_;rintro e w7⟨rfl,hS7,hF⟩;clear hak;have hbx:=hS6.box;clear hS6;have hm7:=hm6.extG hF (fun d hd T c fr h=>by rw[Qbw hbx hd h];decide);have hx7:=hx6.extG hF (fun d hd T c fr h=>by rw[Qbw hbx hd h];decide);have hO7:=Qcc hO6 hF (fun d hd c fr h=>absurd (Qbw hbx hd h) (by decide));have hsm:∀d,SM (w.heap.size+1+1+1) (w.heap.size+1+1) w6 d→w.heap.size+1+1≤d:=fun d hd=>by rcases hd with rfl | ⟨h,_⟩<;>omega
     have hp7:=hp6.ext hF (fun d hd=>by have:=hsm d hd;omega);have hX7:=hX6.trans' hF (fun d hd=>.inr (by have:=hsm d hd;omega));have hs7:=hF.size;have hR7:=hF.heap (fun hd=>by have:=hsm _ hd;omega) hR6;have hV7:=hF.heap (fun hd=>by have:=hsm _ hd;omega) hV6;have hB7:w7.heap[w4.heap.size]? =some (.cells #[.iface T9 v9] 299 (0,0)):=hF.heap (fun hd=>absurd (Qbw hbx hd hB6) (by decide)) hB6;clear hF hsm hbx
     clear hm6 hx6 hO6 hR6 hV6 hB6 hp6 hX6;have c_hB_0:=Qaa (o:=0) hB7 rfl;have hb4:=Qab w7 (.cells #[.string k,.iface T9 v9] 439);have n0:∀j u,[Value.string k,Value.iface T9 v9][j]? =some u→(w7.alloc (.cells #[.string k,.iface T9 v9] 439)).cell? ⟨w7.heap.size,j,none⟩=some u:=by
      intro j u hj;exact Qaa (Xa _ _) (by simpa using hj)
     have hOa:=Qaj (S:=fun _=>False) hO7 (.below hb4) (fun _ h=>h.elim);have hma:=hm7.later hb4;have hxa:=hx7.later hb4;have hpa:=hp7.below hb4;have hXa:=hX7.alloc (.cells #[.string k,.iface T9 v9] 439);have hRa:=Qaf hR7 (.cells #[.string k,.iface T9 v9] 439);have hVa:=Qaf hV7 (.cells #[.string k,.iface T9 v9] 439);have hSa:=hS7.later hb4;clear hm7 hx7 hO7 hR7 hV7 hB7 hS7 hp7 hX7
     go_wp2_with(at_builtin;refine appG sl434 rfl _ _ rfl (w.heap.size+1+1+1) _ _ _ rfl hOa _ [.string k,.iface T9 v9] rfl rfl n0 (fun v hv=>by simp at hv;rcases hv with rfl | rfl<;>rfl) (by unfold maxLen;omega) (by omega) (by simp;omega) ?_)
     intro v10 w20 hO20 hg9 _;have hs20:w7.heap.size≤w20.heap.size:=by have:=hg9.size;simp at this;omega
     have hm20:=(hma.grow hOa hg9 (by decide)).snoc (k:=k) (hxa.grow hOa hg9 (by decide));have hp20:=hpa.grow hOa hg9 (by omega);have hX20:=hXa.grow hOa hg9 (by omega);have hR20:=QaL hRa hOa hg9 (by omega);have hV20:=QaL hVa hOa hg9 (by omega);have hS20:=hSa.grow hOa hg9 (by decide);clear hOa hma hxa hpa hXa n0 hg9 c_hB_0 hRa hVa hSa hb4;obtain⟨u2,q2,rfl⟩:∃u q,us=u::q:=by cases us with | nil=>exact absurd rfl hp20.ne | cons u q=>exact⟨u,q,rfl⟩
     go_wp2_with fail
     refine(Qa7 hp20).mono ?_;rintro e w21⟨rfl,hF⟩;have hS21:=hS20.later hF;have hm21:=hm20.later hF;have hR21:=Bk hF hR20;have hV21:=Bk hF hV20;have hO21:=Qaj (S:=fun _=>False) hO20 (.below hF) (fun _ h=>h.elim);have hs21:=hF.size;have hX21:=hX20.trans (.below hF);have hp21:=hp20.below hF;clear hm20 hR20 hV20 hO20 hX20 hp20 hS20;clear hF;cases ht:(u2.tx.toList==[44])with
     | true =>
      have hau:(adv (u2::q2)).length<(u2::q2).length:=Qax hwu (s:=[44]) ht (by decide)
      go_wp2_with fail
      refine(Qaz hp21).mono ?_;rintro e w22⟨rfl,hp22,hF⟩;have hS22:=hS21.ext hF (fun d hd=>by subst hd;omega);have hm22:=hm21.keep hF (fun d hd=>by omega);have hR22:=hF.heap (by omega) hR21;have hV22:=hF.heap (by omega) hV21;have hO22:=Qaj hO21 hF (fun d hd=>by omega);have hs22:=hF.size;have hX22:=hX21.trans hF;clear hm21 hR21 hV21 hO21 hX21 hp21 hS21;clear hF;have HG2:=Hi (show Qbz L E g (acc++[(k,x)]) (adv (u2::q2))=Qbz L E (ts.length+1) [] ts by rw[←HG.out,Qbz];simp[tx,hnc,HM.out,hd,ht])
      go_wp2;go_roundw
      case rel=>exact⟨g,acc++[(k,x)],_,_,HG2.out,by omega,hwu.adv,by omega,by rw[List.length_append];show acc.length+1+_≤_;omega,hp22,by simpa using hO22,hm22,hdis2,hR22,hV22,by simpa using hS22,hX22⟩
      case measure =>
       rw[hp22.left,HLF.out];omega
     | false =>
      have hnk:=ht;clear ht;cases ht:(u2.tx.toList==[125])with
      | true =>
       have HG2:=Hi (show Qbz L E g (acc++[(k,x)]) (u2::q2)=Qbz L E (ts.length+1) [] ts by obtain⟨g',rfl⟩:∃g',g=g'+1:=⟨g-1,by omega⟩;rw[←HG.out];simp[Qbz,tx,hnc,HM.out,hd,hnk,ht]);go_wp2;go_roundw
       case rel=>exact⟨g,acc++[(k,x)],_,_,HG2.out,by omega,hwu,by omega,by rw[List.length_append];show acc.length+1+_≤_;omega,hp21,by simpa using hO21,hm21,hdis2,hR21,hV21,by simpa using hS21,hX21⟩
       case measure =>
        rw[hp21.left,HLF.out];omega
      | false =>
       have HR0:=Hi (show recE L E ts=none by unfold recE;rw[show recd L E ts=Qbz L E (ts.length+1) [] ts from rfl,←HG.out,Qbz];simp[tx,hnc,HM.out,hd,hnk,ht]);have c_hR_0:=Qaa (o:=0) hR21 rfl;have c_hV_0:=Qaa (o:=0) hV21 rfl;have lt_hR:=Qad hR21;have lt_hV:=Qad hV21;have HR:=Hi (HR0.out);have HB:=Hi (Xc hR21 hV21);clear hR21 hV21 hm21 hO21 hS21;clear HM HG
       go_upto_region 16 with(fail)
       have HK0:=RKeep.start HB.out.1 HB.out.2 (show w.heap.size≠w.heap.size+1 by omega)
       go_region_held3 (fun w'=>w'.cell? ⟨w.heap.size+1,0,none⟩=some .nilIface∧RKeep w21 (w.heap.size) (w.heap.size+1) w') (first | exact⟨HK0.drew.cell,HK0.drew⟩ | exact⟨RKeep.cell (RKeep.alloc (And.right (by assumption)) _),RKeep.alloc (And.right (by assumption)) _⟩ | exact⟨RKeep.cell (RKeep.set (And.right (by assumption)) _),RKeep.set (And.right (by assumption)) _⟩ | exact⟨RKeep.cell hqk,hqk⟩) (first | (go_at_call 53;refine(QgT hp21 (And.right (by assumption)) (by omega)).mono ?_;rintro e wp ⟨rfl,hqk⟩) | (go_at_call 95;refine(QeW hp21 (And.right (by assumption)) (by omega) _ _).mono ?_;rintro e wq ⟨T7,v7,rfl,hqk⟩;obtain⟨xr,cq2,cq3⟩:=hqk.old))
       obtain⟨xr9,hxr9⟩:=hqk.r;go_wp2;refine Qai (R:=w.heap.size) _ 2 3 (by kernel_rfl) rfl rfl rfl (Qac (o:=0) hxr9 _) ?_;exact Qak HR.out ((hX21.trans' hqk.x (fun d k=>.inr (by subst k;omega))).set (p:=⟨w.heap.size,0,none⟩) (.inr (Xb _)) _)
end Go.Proofs.Pg
