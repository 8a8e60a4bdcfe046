/- FnComma: a last comma changes nothing; for every world. Part 23. -/
import Derived.Test.YtmhjkkkhdlnngaaGreatDoorZ22
set_option linter.all false
set_option maxRecDepth 100000
set_option maxHeartbeats 40000000
namespace Go.Proofs.Pg
open Go.RowKit
attribute [local go_sem] Oper.semAt_some
theorem Qc7{W:World}{fn:Func}{R:Nat}{x y err:Value}{Q:Ending→World→Prop}(a:Act)(s s2:Nat)(hf:fn.results=#[.cell s 167,.tmp s2])(ha:a.tmps.getD s undef=.pointer (some ⟨R,0,none⟩))(he:a.tmps.getD s2 undef=err)(had:a.defers=[])
  (r:W.heap[R]? =some (.cells #[x,y] 167 (0,0)))(h:Q (.returned (.tuple #[.agg #[x,y],err])) W):bodyPost Tryz.prog fn Q Exit.ret a W:=by
 refine bodyPost_ret (QaH (a:=s) (t:=167) hf _ ⟨R,0,none⟩ ha _ _ (QeP _ _ _ _ _ (by kernel_rfl) (by kernel_rfl) (Qaa (o:=0) r rfl) (Qaa (o:=1) r rfl))) had ?_;rw[he];exact h
def UidP(bp base:Nat)(w:World)(r:Option ((ByteArray×ByteArray)×Toks))(e:Ending)(w':World):Prop :=
 Ext (·=bp) w w'∧match r with
 | none=>∃a b T v,e=.returned (.tuple #[.agg #[.string a,.string b],.iface T v])
 | some ((t,i),us)=>e=.returned (.tuple #[.agg #[.string t,.string i],.nilIface])∧PS w' bp base us
theorem Qcn{bp base:Nat}{w w':World}{r:Option ((ByteArray×ByteArray)×Toks)}{T:TypeId}{v:Value}{a b:ByteArray}(h:r=none)(hX:Ext (·=bp) w w'):UidP bp base w r (.returned (.tuple #[.agg #[.string a,.string b],.iface T v])) w':=by subst h;exact⟨hX,_,_,_,_,rfl⟩
theorem Qey{bp base:Nat}{w w':World}{r:Option ((ByteArray×ByteArray)×Toks)}{t i:ByteArray}{us:Toks}(h:r=some ((t,i),us))(hX:Ext (·=bp) w w')(hp:PS w' bp base us):UidP bp base w r (.returned (.tuple #[.agg #[.string t,.string i],.nilIface])) w':=by subst h;exact⟨hX,rfl,hp⟩
def EnRel(m:Nat→ByteArray→Toks→Option ((ByteArray×ByteArray)×Toks))(bp base N R V:Nat)(w:World)(Rm:Option ((ByteArray×ByteArray)×Toks))(wr:World):Prop :=
 ∃g r vs,m g r vs=Rm∧vs.length<g∧Wf vs∧vs.length≤N∧PS wr bp base vs∧wr.heap[R]? =some (.cells #[.string ⟨#[]⟩,.string ⟨#[]⟩] 167 (0,0))∧wr.heap[V]? =some (.cells #[.string r,.string ⟨#[]⟩] 167 (0,0))∧Ext (·=bp) w wr∧r.size+vs.length*1000002≤2000000000000
theorem entL_w{L:Lex}(hL:LexC L){bp base:Nat}(w:World)(ts:Toks)(r0:ByteArray)(g0:Nat)(hp:PS w bp base ts)(hwf:Wf ts)(hg0:ts.length<g0)(hbs:base≤w.heap.size)(hz:r0.size+ts.length*1000002≤2000000000000) :
  Calls Tryz.prog 142 #[.pointer (some ⟨bp,0,none⟩),.string r0] w (UidP bp base w (entL L g0 r0 ts)):=by
 have hbb:=hp.hbp;have h15:=hp.h15;have hlen:=hp.len;have HL:=Hi hL;clear hL;go_enter Tryz.func142,Tryz.ntmps142
 go_upto_region 3 with(fail)
 obtain⟨w1,hw⟩:∃w1,((w.alloc (.cells #[.string ⟨#[]⟩,.string ⟨#[]⟩] 167)).alloc (.cells #[.string r0,.string ⟨#[]⟩] 167))=w1:=⟨_,rfl⟩
 rw[hw];have hF:Below w.heap.size w w1:=by rw[←hw];exact(Qab w _).alloc (by simp) _
 have hR1:w1.heap[w.heap.size]? =some (.cells #[.string ⟨#[]⟩,.string ⟨#[]⟩] 167 (0,0)):=by rw[←hw];exact Qaf (Qah (by simp) _) _
 have hV1:w1.heap[w.heap.size+1]? =some (.cells #[.string r0,.string ⟨#[]⟩] 167 (0,0)):=by rw[←hw];exact Qah (by simp) _
 have hs1:w.heap.size+2≤w1.heap.size:=by rw[←hw];simp
 clear hw;have hX1:Ext (·=bp) w w1:=.below hF;have hp1:=hp.below hF;clear hp;clear hF
 go_loopw [7] (fun _ wr=>EnRel (entL L) bp base ts.length (w.heap.size) (w.heap.size+1) w (entL L g0 r0 ts) wr) (fun _ wr=>left wr bp)
 case atStart=>exact⟨g0,r0,ts,rfl,hg0,hwf,Nat.le_refl _,hp1,hR1,hV1,hX1,hz⟩
 case round =>
  clear hp1 hR1 hV1 hX1 hwf hg0 hz;obtain⟨wo,rfl⟩:∃wo:World,wo=wr:=⟨_,rfl⟩
  obtain⟨g,r1,vs,hg,hgl,hvw,hvN,hp_wo,hR_wo,hV_wo,hX_wo,hzr⟩:=hrel;have HG:=Hi hg;clear hg;cases g with
  | zero=>omega
  | succ g =>
  obtain⟨u,q,rfl⟩:∃u q,vs=u::q:=by cases vs with | nil=>exact absurd rfl hp_wo.ne | cons u q=>exact⟨u,q,rfl⟩
  have HLF:=Hi hp_wo.left;have hsz_wo:=hX_wo.size;have ltV:=Qad hV_wo;have hul:(u::q).length≤1000000:=hp_wo.len;have hwa:=hvw.adv;cases ht:(u.tx.toList==[58,58])with
  | false =>
   go_wp2_with fail
   refine(Qa9 hp_wo ht).mono ?_;rintro e w2⟨T9,v9,rfl,hp2,hF⟩;have hR2:=hF.heap (by omega) hR_wo;have hV2:=hF.heap (by omega) hV_wo;have hs2:=hF.size;have hX2:=hX_wo.trans hF;clear hR_wo hV_wo hX_wo hp_wo;clear hF;obtain⟨c_hR_0,c_hR_1⟩:=Cl2 hR2 rfl rfl;obtain⟨c_hV_0,c_hV_1⟩:=Cl2 hV2 rfl rfl;have f_hR:=Qae hR2 0;have g_hR:w2.frozen? ⟨w.heap.size,1,none⟩=false:=Qae hR2 1;have lt_hR:=Qad hR2;have lt_hV:=Qad hV2
   have HR:=Hi (show entL L g0 r0 ts=none by rw[←HG.out,entL];simp only[exact,tx,Bool.false_eq_true,if_false,if_true,ty,hd,ht]);have HB:=Hi hR2;clear hR2 hV2;go_wp2;refine Qc7 (R:=w.heap.size) _ 4 5 (by kernel_rfl) rfl rfl rfl (Qac (o:=1) (Qac (o:=0) HB.out _) _) ?_;exact Qcn HR.out ((hX2.set (p:=⟨w.heap.size,0,none⟩) (.inr (show _≤w.heap.size by omega)) _).set (p:=⟨w.heap.size,1,none⟩) (.inr (show _≤w.heap.size by omega)) _)
  | true =>
   have hla:(adv (u::q)).length<(u::q).length:=Qax hvw (s:=[58,58]) ht (by decide);obtain⟨u2,q2,ha2⟩:∃a b,adv (u::q)=a::b:=by
    cases h:adv (u::q)with
    | nil=>rw[h]at hwa;exact absurd rfl hwa.ne
    | cons a b=>exact⟨a,b,rfl⟩
   go_wp2_with fail
   refine(Qa0 hp_wo ht).mono ?_;rintro e w2⟨rfl,hp2,hF⟩;have hR2:=hF.heap (by omega) hR_wo;have hV2:=hF.heap (by omega) hV_wo;have hs2:=hF.size;have hX2:=hX_wo.trans hF;clear hR_wo hV_wo hX_wo hp_wo;clear hF;rw[ha2]at hwa hla hp2;have HA2:=Hi ha2;clear ha2;have htz:=hp2.sz
   go_wp2_with fail
   refine(Qaz hp2).mono ?_;rintro e w3⟨rfl,hp3,hF⟩;have hR3:=hF.heap (by omega) hR2;have hV3:=hF.heap (by omega) hV2;have hs3:=hF.size;have hX3:=hX2.trans hF;clear hR2 hV2 hX2 hp2;clear hF;have hlb:(adv (u2::q2)).length≤(u2::q2).length:=(Qam hwa).len
   go_wp2_with fail
   obtain⟨w4,hw⟩:∃w4,w3.alloc (.cells #[.int .i64 u2.ty,.string u2.fn,.int .i64 u2.off,.int .i64 u2.ln,.int .i64 u2.col,.string u2.tx] 122)=w4:=⟨_,rfl⟩
   rw[hw];have hF:Below w3.heap.size w3 w4:=by rw[←hw];exact Qab _ _
   have hK24:w4.heap[w3.heap.size]? =some (.cells #[.int .i64 u2.ty,.string u2.fn,.int .i64 u2.off,.int .i64 u2.ln,.int .i64 u2.col,.string u2.tx] 122 (0,0)):=by rw[←hw];exact heap_alloc_new _ _
   have hs4:w3.heap.size+1≤w4.heap.size:=by rw[←hw];simp
   clear hw;have hR4:=Bk hF hR3;have hV4:=Bk hF hV3;have hX4:=hX3.trans (.below hF);have hp4:=hp3.below hF;clear hR3 hV3 hX3 hp3;clear hF;obtain⟨c_hK2_0,c_hK2_1,c_hK2_2,c_hK2_3,c_hK2_4,c_hK2_5⟩:=Cl6 hK24 rfl rfl rfl rfl rfl rfl
   go_wp2_with fail
   refine(Qbd u2 _).mono ?_;rintro e w5⟨rfl,hF⟩;have hR5:=Bk hF hR4;have hV5:=Bk hF hV4;have hK25:=Bk hF hK24;have hs5:=hF.size;have hX5:=hX4.trans (.below hF);have hp5:=hp4.below hF;clear hR4 hV4 hK24 hX4 hp4 c_hK2_0 c_hK2_1 c_hK2_2 c_hK2_3 c_hK2_4 c_hK2_5;clear hF;cases hi:(u2.ty==1)with
   | true =>
    have c_hK2_5:=Qaa (o:=5) hK25 rfl;obtain⟨c_hV_0,c_hV_1⟩:=Cl2 hV5 rfl rfl;have f_hV:=Qae hV5 0;have lt_hV:=Qad hV5;have e2:(⟨#[58,58]⟩:ByteArray).size=2:=rfl;have HGG:=Hi (show entL L g (r1++(⟨#[58,58]⟩:ByteArray)++u2.tx) (adv (u2::q2))=entL L g0 r0 ts by rw[←HG.out,entL];simp only[exact,tx,Bool.false_eq_true,if_false,if_true,ty,hd,ht,HA2.out,hi]);have HB:=Hi (And.intro hV5 hR5);clear hV5 hR5;go_wp2
    go_roundw
    case rel=>exact⟨g,_,_,HGG.out,by omega,hwa.adv,by omega,hp5.set (o:=0) (by omega) _,Qag HB.out.2 (by omega) _,Qac (o:=0) HB.out.1 _,hX5.set (p:=⟨w.heap.size+1,0,none⟩) (.inr (show _≤w.heap.size+1 by omega)) _,by rw[ByteArray.size_append,ByteArray.size_append,e2];omega⟩
    case measure =>
     rw[(hp5.set (d:=w.heap.size+1) (o:=0) (by omega) (.string (r1++(⟨#[58,58]⟩:ByteArray)++u2.tx))).left,HLF.out];omega
   | false =>
    obtain⟨c_hK2_0,c_hK2_1,c_hK2_2,c_hK2_3,c_hK2_4,c_hK2_5⟩:=Cl6 hK25 rfl rfl rfl rfl rfl rfl
    go_wp2_with fail
    refine(QbY u2 _).mono ?_;rintro e w6⟨rfl,hF⟩;have hR6:=Bk hF hR5;have hV6:=Bk hF hV5;have hK26:=Bk hF hK25;have hs6:=hF.size;have hX6:=hX5.trans (.below hF);have hp6:=hp5.below hF;clear hR5 hV5 hK25 hX5 hp5 c_hK2_0 c_hK2_1 c_hK2_2 c_hK2_3 c_hK2_4 c_hK2_5;clear hF;cases hj:(u2.ty==4)with
    | false =>
     obtain⟨c_hR_0,c_hR_1⟩:=Cl2 hR6 rfl rfl;obtain⟨c_hV_0,c_hV_1⟩:=Cl2 hV6 rfl rfl;have lt_hR:=Qad hR6;have lt_hV:=Qad hV6;have HR:=Hi (show entL L g0 r0 ts=none by rw[←HG.out,entL];simp only[exact,tx,Bool.false_eq_true,if_false,if_true,ty,hd,ht,HA2.out,hi,hj]);have HB:=Hi (And.intro hR6 hV6);clear hR6 hV6 hK26
     go_upto_region 7 with(fail)
     go_region_with(go_at_call 95;refine(QbS (w0:=w6) hp6 (Ext.refl _ _).drew _ _).mono ?_;rintro e wq ⟨T7,v7,rfl,hq⟩;have cq1:=hq.cell (fun k=>k) c_hV_0;have cq2:=hq.cell (fun k=>k) c_hR_0;have cq4:=hq.cell (fun k=>k) c_hV_1;have cq5:=hq.cell (fun k=>k) c_hR_1;have cq3:=Qae (hq.heap (fun k=>k) HB.out.1) 0;have cq6:=Qae (hq.heap (fun k=>k) HB.out.1) 1)
     all_goals go_wp2
     all_goals refine Qc7 (R:=w.heap.size) _ 4 5 (by kernel_rfl) rfl rfl rfl (Qac (o:=1) (Qac (o:=0) (hq.heap (fun k=>k) HB.out.1) _) _) ?_
     all_goals exact Qcn HR.out (((hX6.trans' hq (fun _ k=>k.elim)).set (p:=⟨w.heap.size,0,none⟩) (.inr (Nat.le_refl _)) _).set (p:=⟨w.heap.size,1,none⟩) (.inr (Nat.le_refl _)) _)
    | true =>
     obtain⟨c_hK2_0,c_hK2_1,c_hK2_2,c_hK2_3,c_hK2_4,c_hK2_5⟩:=Cl6 hK26 rfl rfl rfl rfl rfl rfl
     go_wp2_with fail
     refine(HL.out.str u2 _ hp6.g (by omega) htz).mono ?_;rintro e w7⟨hF,hr⟩;have hR7:=Bk hF hR6;have hV7:=Bk hF hV6;have hK27:=Bk hF hK26;have hs7:=hF.size;have hX7:=hX6.trans (.below hF);have hp7:=hp6.below hF;clear hR6 hV6 hK26 hX6 hp6 c_hK2_0 c_hK2_1 c_hK2_2 c_hK2_3 c_hK2_4 c_hK2_5;clear hF;cases hm:L.str u2.tx with
     | none =>
      rw[hm]at hr;obtain⟨s9,T9,v9,rfl⟩:=hr;obtain⟨c_hR_0,c_hR_1⟩:=Cl2 hR7 rfl rfl;obtain⟨c_hV_0,c_hV_1⟩:=Cl2 hV7 rfl rfl;have f_hR:=Qae hR7 0;have g_hR:w7.frozen? ⟨w.heap.size,1,none⟩=false:=Qae hR7 1;have lt_hR:=Qad hR7;have lt_hV:=Qad hV7;have HR:=Hi (show entL L g0 r0 ts=none by rw[←HG.out,entL];simp only[exact,tx,Bool.false_eq_true,if_false,if_true,ty,hd,ht,HA2.out,hi,hj,hm]);have HB:=Hi hR7;clear hR7 hV7
      go_wp2;refine Qc7 (R:=w.heap.size) _ 4 5 (by kernel_rfl) rfl rfl rfl (Qac (o:=1) (Qac (o:=0) HB.out _) _) ?_;exact Qcn HR.out ((hX7.set (p:=⟨w.heap.size,0,none⟩) (.inr (show _≤w.heap.size by omega)) _).set (p:=⟨w.heap.size,1,none⟩) (.inr (show _≤w.heap.size by omega)) _)
     | some s =>
      rw[hm]at hr;obtain⟨rfl,hsz⟩:=hr;have HR:=Hi (show entL L g0 r0 ts=some ((r1,s),adv (u2::q2))by rw[←HG.out,entL];simp only[exact,tx,Bool.false_eq_true,if_false,if_true,ty,hd,ht,HA2.out,hi,hj,hm]);clear hm;obtain⟨c_hR_0,c_hR_1⟩:=Cl2 hR7 rfl rfl;obtain⟨c_hV_0,c_hV_1⟩:=Cl2 hV7 rfl rfl;have f_hR:=Qae hR7 0;have g_hR:w7.frozen? ⟨w.heap.size,1,none⟩=false:=Qae hR7 1;have f_hV:=Qae hV7 0;have g_hV:w7.frozen? ⟨w.heap.size+1,1,none⟩=false:=Qae hV7 1
      have lt_hR:=Qad hR7;have lt_hV:=Qad hV7;have HB:=Hi hR7;clear hR7 hV7;go_wp2;refine Qc7 (R:=w.heap.size) _ 4 5 (by kernel_rfl) rfl rfl rfl (Qac (o:=1) (Qac (o:=0) (Qag HB.out (by omega) _) _) _) ?_;exact Qey HR.out (((hX7.set (p:=⟨w.heap.size+1,1,none⟩) (.inr (show _≤w.heap.size+1 by omega)) _).set (p:=⟨w.heap.size,0,none⟩) (.inr (Nat.le_refl _)) _).set (p:=⟨w.heap.size,1,none⟩) (.inr (Nat.le_refl _)) _) (((hp7.set (d:=w.heap.size+1) (o:=1) (by omega) _).set (d:=w.heap.size) (o:=0) (by omega) _).set (d:=w.heap.size) (o:=1) (by omega) _)
theorem Qb2{L:Lex}(hL:LexC L){bp base:Nat}(w:World)(ts:Toks)(hp:PS w bp base ts)(hwf:Wf ts)(hbs:base≤w.heap.size) :
  Calls Tryz.prog 96 #[.pointer (some ⟨bp,0,none⟩)] w (UidP bp base w (entity L ts)):=by
 have hbb:=hp.hbp;have h15:=hp.h15;have hlen:=hp.len;have HL:=Hi hL;clear hL;obtain⟨u,q,rfl⟩:∃u q,ts=u::q:=by cases ts with | nil=>exact absurd rfl hp.ne | cons u q=>exact⟨u,q,rfl⟩
 have htz:=hp.sz;have hwa:=hwf.adv;have hla:(adv (u::q)).length≤(u::q).length:=(Qam hwf).len;go_enter Tryz.func96,Tryz.ntmps96
 go_upto_region 2 with(fail)
 obtain⟨w1,hw⟩:∃w1,((w.alloc (.cells #[.string ⟨#[]⟩,.string ⟨#[]⟩] 167)).alloc (.cells #[.string ⟨#[]⟩,.string ⟨#[]⟩] 167))=w1:=⟨_,rfl⟩
 rw[hw];have hF:Below w.heap.size w w1:=by rw[←hw];exact(Qab w _).alloc (by simp) _
 have hR1:w1.heap[w.heap.size]? =some (.cells #[.string ⟨#[]⟩,.string ⟨#[]⟩] 167 (0,0)):=by rw[←hw];exact Qaf (Qah (by simp) _) _
 have hV1:w1.heap[w.heap.size+1]? =some (.cells #[.string ⟨#[]⟩,.string ⟨#[]⟩] 167 (0,0)):=by rw[←hw];exact Qah (by simp) _
 have hs1:w.heap.size+2≤w1.heap.size:=by rw[←hw];simp
 clear hw;have hX1:Ext (·=bp) w w1:=.below hF;have hp1:=hp.below hF;clear hp;clear hF
 go_wp2_with fail
 refine(Qaz hp1).mono ?_;rintro e w2⟨rfl,hp2,hF⟩;have hR2:=hF.heap (by omega) hR1;have hV2:=hF.heap (by omega) hV1;have hs2:=hF.size;have hX2:=hX1.trans hF;clear hR1 hV1 hX1 hp1;clear hF
 go_upto_region 3 with(fail)
 obtain⟨w3,hw⟩:∃w3,w2.alloc (.cells #[.int .i64 u.ty,.string u.fn,.int .i64 u.off,.int .i64 u.ln,.int .i64 u.col,.string u.tx] 122)=w3:=⟨_,rfl⟩
 rw[hw];have hF:Below w2.heap.size w2 w3:=by rw[←hw];exact Qab _ _
 have hT3:w3.heap[w2.heap.size]? =some (.cells #[.int .i64 u.ty,.string u.fn,.int .i64 u.off,.int .i64 u.ln,.int .i64 u.col,.string u.tx] 122 (0,0)):=by rw[←hw];exact heap_alloc_new _ _
 have hs3:w2.heap.size+1≤w3.heap.size:=by rw[←hw];simp
 clear hw;have hR3:=Bk hF hR2;have hV3:=Bk hF hV2;have hX3:=hX2.trans (.below hF);have hp3:=hp2.below hF;clear hR2 hV2 hX2 hp2;clear hF;obtain⟨c_hT_0,c_hT_1,c_hT_2,c_hT_3,c_hT_4,c_hT_5⟩:=Cl6 hT3 rfl rfl rfl rfl rfl rfl
 go_wp2_with fail
 refine(Qbd u _).mono ?_;rintro e w4⟨rfl,hF⟩;have hR4:=Bk hF hR3;have hV4:=Bk hF hV3;have hT4:=Bk hF hT3;have hs4:=hF.size;have hX4:=hX3.trans (.below hF);have hp4:=hp3.below hF;clear hR3 hV3 hT3 hX3 hp3 c_hT_0 c_hT_1 c_hT_2 c_hT_3 c_hT_4 c_hT_5;clear hF;cases hi:(u.ty==1)with
 | false =>
  obtain⟨c_hR_0,c_hR_1⟩:=Cl2 hR4 rfl rfl;obtain⟨c_hV_0,c_hV_1⟩:=Cl2 hV4 rfl rfl;have lt_hR:=Qad hR4;have lt_hV:=Qad hV4;have HR:=Hi (show entity L (u::q)=none by unfold Pg.entity;simp[ty,hd,hi]);have HB:=Hi (And.intro hR4 hV4);clear hR4 hV4 hT4
  go_upto_region 4 with(fail)
  go_region_with(go_at_call 95;refine(QbS (w0:=w4) hp4 (Ext.refl _ _).drew _ _).mono ?_;rintro e wq ⟨T7,v7,rfl,hq⟩;have cq1:=hq.cell (fun k=>k) c_hV_0;have cq2:=hq.cell (fun k=>k) c_hR_0;have cq4:=hq.cell (fun k=>k) c_hV_1;have cq5:=hq.cell (fun k=>k) c_hR_1;have cq3:=Qae (hq.heap (fun k=>k) HB.out.1) 0;have cq6:=Qae (hq.heap (fun k=>k) HB.out.1) 1)
  all_goals go_wp2
  all_goals refine Qc7 (R:=w.heap.size) _ 2 3 (by kernel_rfl) rfl rfl rfl (Qac (o:=1) (Qac (o:=0) (hq.heap (fun k=>k) HB.out.1) _) _) ?_
  all_goals exact Qcn HR.out (((hX4.trans' hq (fun _ k=>k.elim)).set (p:=⟨w.heap.size,0,none⟩) (.inr (Nat.le_refl _)) _).set (p:=⟨w.heap.size,1,none⟩) (.inr (Nat.le_refl _)) _)
 | true =>
  have hlt:(adv (u::q)).length<(u::q).length:=QbZ hwf (k:=1) hi (by decide);have c_hT_5:=Qaa (o:=5) hT4 rfl
  go_wp2_with fail
  refine(entL_w HL.out _ _ u.tx ((u::q).length+1) hp4 hwa (by omega) (by omega) (by omega)).mono ?_;rintro e w5⟨hF,hr⟩;have hR5:=hF.heap (by omega) hR4;have hV5:=hF.heap (by omega) hV4;have hT5:=hF.heap (by omega) hT4;have hs5:=hF.size;have hX5:=hX4.trans hF;clear hR4 hV4 hT4 hX4 c_hT_5;clear hF;have HE:=Hi (show entity L (u::q)=entL L ((u::q).length+1) u.tx (adv (u::q))by unfold Pg.entity;simp[ty,hd,hi])
  cases hm:entL L ((u::q).length+1) u.tx (adv (u::q))with
  | none =>
   rw[hm]at hr;obtain⟨a9,b9,T9,v9,rfl⟩:=hr;obtain⟨c_hR_0,c_hR_1⟩:=Cl2 hR5 rfl rfl;have f_hR:=Qae hR5 0;have g_hR:w5.frozen? ⟨w.heap.size,1,none⟩=false:=Qae hR5 1;have lt_hR:=Qad hR5;have HR:=Hi (show entity L (u::q)=none by rw[HE.out,hm]);have HB:=Hi hR5;clear hR5 hm;go_wp2;refine Qc7 (R:=w.heap.size) _ 2 3 (by kernel_rfl) rfl rfl rfl (Qac (o:=1) (Qac (o:=0) HB.out _) _) ?_;exact Qcn HR.out ((hX5.set (p:=⟨w.heap.size,0,none⟩) (.inr (Nat.le_refl _)) _).set (p:=⟨w.heap.size,1,none⟩) (.inr (Nat.le_refl _)) _)
  | some p9 =>
   obtain⟨⟨t9,i9⟩,us⟩:=p9;rw[hm]at hr;obtain⟨rfl,hp9⟩:=hr;obtain⟨c_hR_0,c_hR_1⟩:=Cl2 hR5 rfl rfl;have f_hR:=Qae hR5 0;have g_hR:w5.frozen? ⟨w.heap.size,1,none⟩=false:=Qae hR5 1;have lt_hR:=Qad hR5;have HR:=Hi (show entity L (u::q)=some ((t9,i9),us)by rw[HE.out,hm]);have HB:=Hi hR5;clear hR5 hm;go_wp2;refine Qc7 (R:=w.heap.size) _ 2 3 (by kernel_rfl) rfl rfl rfl (Qac (o:=1) (Qac (o:=0) HB.out _) _) ?_
   exact Qey HR.out ((hX5.set (p:=⟨w.heap.size,0,none⟩) (.inr (Nat.le_refl _)) _).set (p:=⟨w.heap.size,1,none⟩) (.inr (Nat.le_refl _)) _) ((hp9.set (d:=w.heap.size) (o:=0) (by omega) _).set (d:=w.heap.size) (o:=1) (by omega) _)
def cond(E:Toks→Option (Ex×Toks))(ts:Toks):Option (Ex×Toks):=match exact [123] ts with
 | none=>none
 | some us=>match E us with
  | none=>none
  | some (x,vs)=>match exact [125] vs with
   | none=>none
   | some zs=>some (x,zs)
def CondP(bp base:Nat)(w:World)(r:Option (Ex×Toks))(e:Ending)(w':World):Prop :=
 Ext (·=bp) w w'∧match r with
 | none=>∃n T v,(n=.nilIface∨∃T' v',n=Value.iface T' v')∧e=.returned (.tuple #[.agg #[n],.iface T v])
 | some (x,us)=>∃T v,e=.returned (.tuple #[.agg #[.iface T v],.nilIface])∧PS w' bp base us∧NodeIs w' base (.iface T v) x
theorem QdK{bp base:Nat}{w w':World}{r:Option (Ex×Toks)}{T:TypeId}{v:Value}(h:r=none)(hX:Ext (·=bp) w w'):CondP bp base w r (.returned (.tuple #[.agg #[.nilIface],.iface T v])) w':=by subst h;exact⟨hX,_,_,_,.inl rfl,rfl⟩
theorem QeX{bp base:Nat}{w w':World}{r:Option (Ex×Toks)}{T T':TypeId}{v v':Value}(h:r=none)(hX:Ext (·=bp) w w'):CondP bp base w r (.returned (.tuple #[.agg #[.iface T' v'],.iface T v])) w':=by subst h;exact⟨hX,_,_,_,.inr ⟨_,_,rfl⟩,rfl⟩
theorem Qgb{bp base:Nat}{w w':World}{r:Option (Ex×Toks)}{us:Toks}{T:TypeId}{v:Value}{x:Ex}(h:r=some (x,us))(hX:Ext (·=bp) w w')(hp:PS w' bp base us)(hn:NodeIs w' base (.iface T v) x):CondP bp base w r (.returned (.tuple #[.agg #[.iface T v],.nilIface])) w':=by subst h;exact⟨hX,_,_,rfl,hp,hn⟩
theorem cond_w{E:Toks→Option (Ex×Toks)}{bp base N:Nat}(hE:Sh E)(hC:FnC 149 E bp base N)(w:World)(ts:Toks)(hp:PS w bp base ts)(hwf:Wf ts)(hN:ts.length≤N)(hbs:base≤w.heap.size) :
  Calls Tryz.prog 110 #[.pointer (some ⟨bp,0,none⟩)] w (CondP bp base w (cond E ts)):=by
 have hbb:=hp.hbp;have h15:=hp.h15;have hlen:=hp.len;have HC:=Hi hC;have HE:=Hi hE;clear hC hE;obtain⟨u,q,rfl⟩:∃u q,ts=u::q:=by cases ts with | nil=>exact absurd rfl hp.ne | cons u q=>exact⟨u,q,rfl⟩
 have hwa:=hwf.adv;have hla:(adv (u::q)).length≤(u::q).length:=(Qam hwf).len;go_enter Tryz.func110,Tryz.ntmps110
 go_upto_region 3 with(fail)
 obtain⟨w1,hw⟩:∃w1,((w.alloc (.cells #[.nilIface] 299)).alloc (.cells #[.nilIface] 299))=w1:=⟨_,rfl⟩
 rw[hw];have hF:Below w.heap.size w w1:=by rw[←hw];exact(Qab w _).alloc (by simp) _
 have hR1:w1.heap[w.heap.size]? =some (.cells #[.nilIface] 299 (0,0)):=by rw[←hw];exact Qaf (Qah (by simp) _) _
 have hV1:w1.heap[w.heap.size+1]? =some (.cells #[.nilIface] 299 (0,0)):=by rw[←hw];exact Qah (by simp) _
 have hs1:w.heap.size+2≤w1.heap.size:=by rw[←hw];simp
 clear hw;have hX1:Ext (·=bp) w w1:=.below hF;have hp1:=hp.below hF;clear hp;clear hF;cases ht:(u.tx.toList==[123])with
 | false =>
  go_wp2_with fail
  refine(Qa9 hp1 ht).mono ?_;rintro e w2⟨T9,v9,rfl,hp2,hF⟩;have hR2:=hF.heap (by omega) hR1;have hV2:=hF.heap (by omega) hV1;have hs2:=hF.size;have hX2:=hX1.trans hF;clear hR1 hV1 hX1 hp1;clear hF;have c_hR_0:=Qaa (o:=0) hR2 rfl;have f_hR:=Qae hR2 0;have c_hV_0:=Qaa (o:=0) hV2 rfl;have lt_hR:=Qad hR2;have lt_hV:=Qad hV2;have HR:=Hi (show cond E (u::q)=none by simp[cond,exact,tx,ht]);have HB:=Hi hR2;clear hR2 hV2
  go_wp2;refine Qai (R:=w.heap.size) _ 2 3 (by kernel_rfl) rfl rfl rfl (Qac (o:=0) HB.out _) ?_;exact QdK HR.out (hX2.set (p:=⟨w.heap.size,0,none⟩) (.inr (Nat.le_refl _)) _)
 | true =>
  go_wp2_with fail
  refine(Qa0 hp1 ht).mono ?_;rintro e w2⟨rfl,hp2,hF⟩;have hR2:=hF.heap (by omega) hR1;have hV2:=hF.heap (by omega) hV1;have hs2:=hF.size;have hX2:=hX1.trans hF;clear hR1 hV1 hX1 hp1;clear hF
  go_wp2_with fail
  refine(HC.out _ _ hp2 hwa (by omega) (by omega)).mono ?_;rintro e w3⟨hF,hr⟩;have hR3:=hF.heap (by omega) hR2;have hV3:=hF.heap (by omega) hV2;have hs3:=hF.size;have hX3:=hX2.trans hF;clear hR2 hV2 hX2;clear hF;cases hm:E (adv (u::q))with
  | none =>
   rw[hm]at hr;obtain⟨T9,v9,rfl⟩:=hr;have c_hV_0:=Qaa (o:=0) hV3 rfl;have f_hV:=Qae hV3 0;have lt_hV:=Qad hV3;have lt_hR:=Qad hR3
   go_upto_region 7 with(fail)
   obtain⟨w4,hw⟩:∃w4,w3.setCell ⟨w.heap.size+1,0,none⟩ (.nilIface)=w4:=⟨_,rfl⟩
   rw[hw];have hR4:w4.heap[w.heap.size]? =some (.cells #[.nilIface] 299 (0,0)):=hw▸Qag (o:=0) hR3 (by omega) (.nilIface);have hV4:w4.heap[w.heap.size+1]? =some (.cells #[.nilIface] 299 (0,0)):=hw▸Qac (o:=0) hV3 (.nilIface);have hX4:Ext (·=bp) w w4:=hw▸hX3.set (p:=⟨w.heap.size+1,0,none⟩) (.inr (show w.heap.size≤w.heap.size+1 by omega)) (.nilIface);have hs4:w3.heap.size≤w4.heap.size:=by rw[←hw];simp
   clear hR3 hV3 hX3 c_hV_0 f_hV lt_hV lt_hR hw;have c_hR_0:=Qaa (o:=0) hR4 rfl;have f_hR:=Qae hR4 0;have c_hV_0:=Qaa (o:=0) hV4 rfl;have lt_hR:=Qad hR4;have lt_hV:=Qad hV4;have HR:=Hi (show cond E (u::q)=none by simp[cond,exact,tx,ht,hm]);have HB:=Hi hR4;clear hR4 hV4;go_wp2;refine Qai (R:=w.heap.size) _ 2 3 (by kernel_rfl) rfl rfl rfl (Qac (o:=0) HB.out _) ?_;exact QdK HR.out (hX4.set (p:=⟨w.heap.size,0,none⟩) (.inr (Nat.le_refl _)) _)
  | some p2 =>
   obtain⟨x,us⟩:=p2;rw[hm]at hr;obtain⟨T9,v9,rfl,hp9,hn3⟩:=hr;have HM:=Hi hm;clear hm;obtain⟨u2,q2,rfl⟩:∃u q,us=u::q:=by cases us with | nil=>exact absurd rfl hp9.ne | cons u q=>exact⟨u,q,rfl⟩
   have c_hV_0:=Qaa (o:=0) hV3 rfl;have f_hV:=Qae hV3 0;have lt_hV:=Qad hV3;have lt_hR:=Qad hR3
   go_upto_region 7 with(fail)
   obtain⟨w4,hw⟩:∃w4,w3.setCell ⟨w.heap.size+1,0,none⟩ (.iface T9 v9)=w4:=⟨_,rfl⟩
   rw[hw];have hn4:NodeIs w4 base _ _:=hw▸hn3.store (o:=0) hV3 (by decide) (.iface T9 v9);have hR4:w4.heap[w.heap.size]? =some (.cells #[.nilIface] 299 (0,0)):=hw▸Qag (o:=0) hR3 (by omega) (.iface T9 v9);have hV4:w4.heap[w.heap.size+1]? =some (.cells #[.iface T9 v9] 299 (0,0)):=hw▸Qac (o:=0) hV3 (.iface T9 v9);have hX4:Ext (·=bp) w w4:=hw▸hX3.set (p:=⟨w.heap.size+1,0,none⟩) (.inr (show w.heap.size≤w.heap.size+1 by omega)) (.iface T9 v9)
   have hs4:w3.heap.size≤w4.heap.size:=by rw[←hw];simp
   have hp4:PS w4 bp base _:=hw▸hp9.set (o:=0) (show base≤w.heap.size+1 by omega) (.iface T9 v9);clear hn3 hR3 hV3 hX3 hp9 c_hV_0 f_hV lt_hV lt_hR hw;cases hj:(u2.tx.toList==[125])with
   | false =>
    go_wp2_with fail
    refine(Qa9 hp4 hj).mono ?_;rintro e w5⟨T8,v8,rfl,hp5,hF⟩;have hn5:=hn4.keep hF (fun d hd=>by omega);have hR5:=hF.heap (by omega) hR4;have hV5:=hF.heap (by omega) hV4;have hs5:=hF.size;have hX5:=hX4.trans hF;clear hn4 hR4 hV4 hX4 hp4;clear hF;have c_hR_0:=Qaa (o:=0) hR5 rfl;have f_hR:=Qae hR5 0;have c_hV_0:=Qaa (o:=0) hV5 rfl;have lt_hR:=Qad hR5;have lt_hV:=Qad hV5;have HR:=Hi (show cond E (u::q)=none by simp[cond,exact,tx,ht,HM.out,hj])
    have HB:=Hi hR5;clear hR5 hV5;go_wp2;refine Qai (R:=w.heap.size) _ 2 3 (by kernel_rfl) rfl rfl rfl (Qac (o:=0) HB.out _) ?_;exact QeX HR.out (hX5.set (p:=⟨w.heap.size,0,none⟩) (.inr (Nat.le_refl _)) _)
   | true =>
    go_wp2_with fail
    refine(Qa0 hp4 hj).mono ?_;rintro e w5⟨rfl,hp5,hF⟩;have hn5:=hn4.keep hF (fun d hd=>by omega);have hR5:=hF.heap (by omega) hR4;have hV5:=hF.heap (by omega) hV4;have hs5:=hF.size;have hX5:=hX4.trans hF;clear hn4 hR4 hV4 hX4 hp4;clear hF;have c_hR_0:=Qaa (o:=0) hR5 rfl;have f_hR:=Qae hR5 0;have c_hV_0:=Qaa (o:=0) hV5 rfl;have lt_hR:=Qad hR5;have lt_hV:=Qad hV5;have HR:=Hi (show cond E (u::q)=some (x,adv (u2::q2))by simp[cond,exact,tx,ht,HM.out,hj])
    have HB:=Hi hR5;clear hR5 hV5;go_wp2;refine Qai (R:=w.heap.size) _ 2 3 (by kernel_rfl) rfl rfl rfl (Qac (o:=0) HB.out _) ?_;exact Qgb HR.out (hX5.set (p:=⟨w.heap.size,0,none⟩) (.inr (Nat.le_refl _)) _) (hp5.set (o:=0) (by omega) _) (NodeIs.store (o:=0) hn5 HB.out (by decide) _)
theorem load0{P:Program}{t:TypeId}(b o:Nat)(w:World)(ha:(isAgg t).run P w=.ok true w)(hs:(sizeOf t).run P w=.ok 0 w) :
  (loadVar t ⟨b,o,none⟩).run P w=.ok (.agg #[]) w:=by
 simp only[loadVar,Sem.run_bind,ha,hs,Result.andThen_ok,Sem.run_pure,if_true];simp[loadCells,go_sem]
theorem load3{P:Program}{t:TypeId}(b o:Nat)(w:World)(v0 v1 v2:Value)(ha:(isAgg t).run P w=.ok true w)(hs:(sizeOf t).run P w=.ok 3 w)(h0:w.cell? ⟨b,o,none⟩=some v0)(h1:w.cell? ⟨b,o+1,none⟩=some v1)(h2:w.cell? ⟨b,o+1+1,none⟩=some v2) :
  (loadVar t ⟨b,o,none⟩).run P w=.ok (.agg #[v0,v1,v2]) w:=by
 simp only[loadVar,Sem.run_bind,ha,hs,Result.andThen_ok,Sem.run_pure,if_true];simp[loadCells,go_sem,h0,h1,h2]
theorem QeY(t i:ByteArray)(w:World):Calls Tryz.prog 143 #[.agg #[],.agg #[.string t,.string i]] w fun e w'=>e=.returned (.agg #[.string t,.string i])∧Below w.heap.size w w':=by
 go_enter Tryz.func143,Tryz.ntmps143;go_wp2;exact bodyPost_ret (Qao (a:=4) (t:=169) (by kernel_rfl) _ ⟨w.heap.size+1+1,0,none⟩ rfl _ _ (QeP _ _ _ _ _ (by kernel_rfl) (by kernel_rfl) (Qaa (o:=0) (Qah (by simp) _) rfl) (Qaa (o:=1) (Qah (by simp) _) rfl))) rfl ⟨rfl,((Qab w _).alloc (by first | (simp;done) | (simp;omega)) _).alloc (by first | (simp;done) | (simp;omega)) _⟩
theorem QeZ(t i:ByteArray)(w:World):Calls Tryz.prog 147 #[.agg #[],.agg #[.string t,.string i]] w fun e w'=>e=.returned (.agg #[.string t,.string i])∧Below w.heap.size w w':=by
 go_enter Tryz.func147,Tryz.ntmps147;go_wp2;exact bodyPost_ret (Qao (a:=4) (t:=171) (by kernel_rfl) _ ⟨w.heap.size+1+1,0,none⟩ rfl _ _ (QeP _ _ _ _ _ (by kernel_rfl) (by kernel_rfl) (Qaa (o:=0) (Qah (by simp) _) rfl) (Qaa (o:=1) (Qah (by simp) _) rfl))) rfl ⟨rfl,((Qab w _).alloc (by first | (simp;done) | (simp;omega)) _).alloc (by first | (simp;done) | (simp;omega)) _⟩
theorem QgV(s t i:ByteArray)(w:World):Calls Tryz.prog 145 #[.agg #[],.string s,.agg #[.string t,.string i]] w fun e w'=>e=.returned (.agg #[.string s,.string t,.string i])∧Below w.heap.size w w':=by
 go_enter Tryz.func145,Tryz.ntmps145;go_wp2;exact bodyPost_ret (Qao (a:=6) (t:=178) (by kernel_rfl) _ ⟨w.heap.size+1+1,0,none⟩ rfl _ _ (load3 _ _ _ _ _ _ (by kernel_rfl) (by kernel_rfl) (Qaa (o:=0) (Qah (by simp) _) rfl) (Qaa (o:=1) (Qah (by simp) _) rfl) (Qaa (o:=2) (Qah (by simp) _) rfl))) rfl ⟨rfl,((Qab w _).alloc (by first | (simp;done) | (simp;omega)) _).alloc (by first | (simp;done) | (simp;omega)) _⟩
theorem QgW(s:ByteArray)(w:World):Calls Tryz.prog 146 #[.agg #[],.string s] w fun e w'=>e=.returned (.agg #[.string s])∧Below w.heap.size w w':=by
 go_enter Tryz.func146,Tryz.ntmps146;go_wp2;exact bodyPost_ret (Qao (a:=4) (t:=176) (by kernel_rfl) _ ⟨w.heap.size+1,0,none⟩ rfl _ _ (QcP _ _ _ _ (by kernel_rfl) (by kernel_rfl) (Qaa (o:=0) (Qah (by simp) _) rfl))) rfl ⟨rfl,(Qab w _).alloc (by first | (simp;done) | (simp;omega)) _⟩
theorem sc148_c(p:Option Addr)(n c:Nat)(w:World):Calls Tryz.prog 148 #[.agg #[],.slice p n c] w fun e w'=>e=.returned (.agg #[.slice p n c])∧Below w.heap.size w w':=by
 go_enter Tryz.func148,Tryz.ntmps148;go_wp2;exact bodyPost_ret (Qao (a:=4) (t:=174) (by kernel_rfl) _ ⟨w.heap.size+1,0,none⟩ rfl _ _ (QcP _ _ _ _ (by kernel_rfl) (by kernel_rfl) (Qaa (o:=0) (Qah (by simp) _) rfl))) rfl ⟨rfl,(Qab w _).alloc (by first | (simp;done) | (simp;omega)) _⟩
theorem Qfa(w:World):Calls Tryz.prog 173 #[.agg #[]] w fun e w'=>e=.returned (.agg #[])∧Below w.heap.size w w':=by
 go_enter Tryz.func173,Tryz.ntmps173;go_wp2;exact bodyPost_ret (Qao (a:=2) (t:=344) (by kernel_rfl) _ ⟨w.heap.size+1,0,none⟩ rfl _ _ (load0 _ _ _ (by kernel_rfl) (by kernel_rfl))) rfl ⟨rfl,(Qab w _).alloc (by first | (simp;done) | (simp;omega)) _⟩
def Qa8(w:World)(pb:Nat)(e an pr ac re cs fn off ln col:Value):Prop:=w.heap[pb]? =some (.cells #[e,an,pr,ac,re,cs,fn,off,ln,col] 128 (0,0))
theorem set97_c(t i:ByteArray){w:World}{pb:Nat}{e an pr ac re cs fn off ln col:Value}(h:Qa8 w pb e an pr ac re cs fn off ln col):Calls Tryz.prog 97 #[.pointer (some ⟨pb,0,none⟩),.agg #[.string t,.string i]] w fun r w'=>r=.returned (.pointer (some ⟨pb,0,none⟩))∧Qa8 w' pb e an (.iface 169 (.agg #[.string t,.string i])) ac re cs fn off ln col∧Ext (·=pb) w w':=by
 unfold Qa8 at h ⊢;have hl:=Qad h;go_enter Tryz.func97,Tryz.ntmps97
 go_wp2_with fail
 refine(QeY t i _).mono ?_;rintro r w1⟨rfl,hb⟩;have hX:Ext (·=pb) w w1:=((Ext.refl _ w).alloc _).trans (.below hb);have h1:w1.heap[pb]? =_:=(hb.block pb (by simp;omega)).trans (Qaf h _);have c1:w1.cell? ⟨pb,2,none⟩=some pr:=Qaa h1 rfl;have f1:w1.frozen? ⟨pb,2,none⟩=false:=Qae h1 2;have H:=Hi (And.intro h1 (hX.set (p:=⟨pb,2,none⟩) (.inl rfl) (.iface 169 (.agg #[.string t,.string i]))));clear h h1 hX hb
 go_wp2;go_ret;exact⟨rfl,Qac (o:=2) H.out.1 _,H.out.2⟩
theorem set101_c(t i:ByteArray){w:World}{pb:Nat}{e an pr ac re cs fn off ln col:Value}(h:Qa8 w pb e an pr ac re cs fn off ln col):Calls Tryz.prog 101 #[.pointer (some ⟨pb,0,none⟩),.agg #[.string t,.string i]] w fun r w'=>r=.returned (.pointer (some ⟨pb,0,none⟩))∧Qa8 w' pb e an (.iface 171 (.agg #[.string t,.string i])) ac re cs fn off ln col∧Ext (·=pb) w w':=by
 unfold Qa8 at h ⊢;have hl:=Qad h;go_enter Tryz.func101,Tryz.ntmps101
 go_wp2_with fail
 refine(QeZ t i _).mono ?_;rintro r w1⟨rfl,hb⟩;have hX:Ext (·=pb) w w1:=((Ext.refl _ w).alloc _).trans (.below hb);have h1:w1.heap[pb]? =_:=(hb.block pb (by simp;omega)).trans (Qaf h _);have c1:w1.cell? ⟨pb,2,none⟩=some pr:=Qaa h1 rfl;have f1:w1.frozen? ⟨pb,2,none⟩=false:=Qae h1 2;have H:=Hi (And.intro h1 (hX.set (p:=⟨pb,2,none⟩) (.inl rfl) (.iface 171 (.agg #[.string t,.string i]))));clear h h1 hX hb
 go_wp2;go_ret;exact⟨rfl,Qac (o:=2) H.out.1 _,H.out.2⟩
theorem set100_c(s:ByteArray){w:World}{pb:Nat}{e an pr ac re cs fn off ln col:Value}(h:Qa8 w pb e an pr ac re cs fn off ln col):Calls Tryz.prog 100 #[.pointer (some ⟨pb,0,none⟩),.string s] w fun r w'=>r=.returned (.pointer (some ⟨pb,0,none⟩))∧Qa8 w' pb e an (.iface 176 (.agg #[.string s])) ac re cs fn off ln col∧Ext (·=pb) w w':=by
 unfold Qa8 at h ⊢;have hl:=Qad h;go_enter Tryz.func100,Tryz.ntmps100
 go_wp2_with fail
 refine(QgW s _).mono ?_;rintro r w1⟨rfl,hb⟩;have hX:Ext (·=pb) w w1:=.below hb;have h1:w1.heap[pb]? =_:=(hb.block pb hl).trans h;have c1:w1.cell? ⟨pb,2,none⟩=some pr:=Qaa h1 rfl;have f1:w1.frozen? ⟨pb,2,none⟩=false:=Qae h1 2;have H:=Hi (And.intro h1 (hX.set (p:=⟨pb,2,none⟩) (.inl rfl) (.iface 176 (.agg #[.string s]))));clear h h1 hX hb;go_wp2;go_ret;exact⟨rfl,Qac (o:=2) H.out.1 _,H.out.2⟩
theorem set99_c(s t i:ByteArray){w:World}{pb:Nat}{e an pr ac re cs fn off ln col:Value}(h:Qa8 w pb e an pr ac re cs fn off ln col):Calls Tryz.prog 99 #[.pointer (some ⟨pb,0,none⟩),.string s,.agg #[.string t,.string i]] w fun r w'=>r=.returned (.pointer (some ⟨pb,0,none⟩))∧Qa8 w' pb e an (.iface 178 (.agg #[.string s,.string t,.string i])) ac re cs fn off ln col∧Ext (·=pb) w w':=by
 unfold Qa8 at h ⊢;have hl:=Qad h;go_enter Tryz.func99,Tryz.ntmps99
 go_wp2_with fail
 refine(QgV s t i _).mono ?_;rintro r w1⟨rfl,hb⟩;have hX:Ext (·=pb) w w1:=((Ext.refl _ w).alloc _).trans (.below hb);have h1:w1.heap[pb]? =_:=(hb.block pb (by simp;omega)).trans (Qaf h _);have c1:w1.cell? ⟨pb,2,none⟩=some pr:=Qaa h1 rfl;have f1:w1.frozen? ⟨pb,2,none⟩=false:=Qae h1 2;have H:=Hi (And.intro h1 (hX.set (p:=⟨pb,2,none⟩) (.inl rfl) (.iface 178 (.agg #[.string s,.string t,.string i]))));clear h h1 hX hb
 go_wp2;go_ret;exact⟨rfl,Qac (o:=2) H.out.1 _,H.out.2⟩
theorem set102_c(t i:ByteArray){w:World}{pb:Nat}{e an pr ac re cs fn off ln col:Value}(h:Qa8 w pb e an pr ac re cs fn off ln col):Calls Tryz.prog 102 #[.pointer (some ⟨pb,0,none⟩),.agg #[.string t,.string i]] w fun r w'=>r=.returned (.pointer (some ⟨pb,0,none⟩))∧Qa8 w' pb e an pr (.iface 169 (.agg #[.string t,.string i])) re cs fn off ln col∧Ext (·=pb) w w':=by
 unfold Qa8 at h ⊢;have hl:=Qad h;go_enter Tryz.func102,Tryz.ntmps102
 go_wp2_with fail
 refine(QeY t i _).mono ?_;rintro r w1⟨rfl,hb⟩;have hX:Ext (·=pb) w w1:=((Ext.refl _ w).alloc _).trans (.below hb);have h1:w1.heap[pb]? =_:=(hb.block pb (by simp;omega)).trans (Qaf h _);have c1:w1.cell? ⟨pb,3,none⟩=some ac:=Qaa h1 rfl;have f1:w1.frozen? ⟨pb,3,none⟩=false:=Qae h1 3;have H:=Hi (And.intro h1 (hX.set (p:=⟨pb,3,none⟩) (.inl rfl) (.iface 169 (.agg #[.string t,.string i]))));clear h h1 hX hb
 go_wp2;go_ret;exact⟨rfl,Qac (o:=3) H.out.1 _,H.out.2⟩
theorem set105_c(t i:ByteArray){w:World}{pb:Nat}{e an pr ac re cs fn off ln col:Value}(h:Qa8 w pb e an pr ac re cs fn off ln col):Calls Tryz.prog 105 #[.pointer (some ⟨pb,0,none⟩),.agg #[.string t,.string i]] w fun r w'=>r=.returned (.pointer (some ⟨pb,0,none⟩))∧Qa8 w' pb e an pr (.iface 171 (.agg #[.string t,.string i])) re cs fn off ln col∧Ext (·=pb) w w':=by
 unfold Qa8 at h ⊢;have hl:=Qad h;go_enter Tryz.func105,Tryz.ntmps105
 go_wp2_with fail
 refine(QeZ t i _).mono ?_;rintro r w1⟨rfl,hb⟩;have hX:Ext (·=pb) w w1:=((Ext.refl _ w).alloc _).trans (.below hb);have h1:w1.heap[pb]? =_:=(hb.block pb (by simp;omega)).trans (Qaf h _);have c1:w1.cell? ⟨pb,3,none⟩=some ac:=Qaa h1 rfl;have f1:w1.frozen? ⟨pb,3,none⟩=false:=Qae h1 3;have H:=Hi (And.intro h1 (hX.set (p:=⟨pb,3,none⟩) (.inl rfl) (.iface 171 (.agg #[.string t,.string i]))));clear h h1 hX hb
 go_wp2;go_ret;exact⟨rfl,Qac (o:=3) H.out.1 _,H.out.2⟩
theorem set104_c(p:Option Addr)(n c:Nat){w:World}{pb:Nat}{e an pr ac re cs fn off ln col:Value}(h:Qa8 w pb e an pr ac re cs fn off ln col):Calls Tryz.prog 104 #[.pointer (some ⟨pb,0,none⟩),.slice p n c] w fun r w'=>r=.returned (.pointer (some ⟨pb,0,none⟩))∧Qa8 w' pb e an pr (.iface 174 (.agg #[.slice p n c])) re cs fn off ln col∧Ext (·=pb) w w':=by
 unfold Qa8 at h ⊢;have hl:=Qad h;go_enter Tryz.func104,Tryz.ntmps104
 go_wp2_with fail
 refine(sc148_c p n c _).mono ?_;rintro r w1⟨rfl,hb⟩;have hX:Ext (·=pb) w w1:=.below hb;have h1:w1.heap[pb]? =_:=(hb.block pb hl).trans h;have c1:w1.cell? ⟨pb,3,none⟩=some ac:=Qaa h1 rfl;have f1:w1.frozen? ⟨pb,3,none⟩=false:=Qae h1 3;have H:=Hi (And.intro h1 (hX.set (p:=⟨pb,3,none⟩) (.inl rfl) (.iface 174 (.agg #[.slice p n c]))));clear h h1 hX hb;go_wp2;go_ret;exact⟨rfl,Qac (o:=3) H.out.1 _,H.out.2⟩
theorem set106_c(t i:ByteArray){w:World}{pb:Nat}{e an pr ac re cs fn off ln col:Value}(h:Qa8 w pb e an pr ac re cs fn off ln col):Calls Tryz.prog 106 #[.pointer (some ⟨pb,0,none⟩),.agg #[.string t,.string i]] w fun r w'=>r=.returned (.pointer (some ⟨pb,0,none⟩))∧Qa8 w' pb e an pr ac (.iface 169 (.agg #[.string t,.string i])) cs fn off ln col∧Ext (·=pb) w w':=by
 unfold Qa8 at h ⊢;have hl:=Qad h;go_enter Tryz.func106,Tryz.ntmps106
 go_wp2_with fail
 refine(QeY t i _).mono ?_;rintro r w1⟨rfl,hb⟩;have hX:Ext (·=pb) w w1:=((Ext.refl _ w).alloc _).trans (.below hb);have h1:w1.heap[pb]? =_:=(hb.block pb (by simp;omega)).trans (Qaf h _);have c1:w1.cell? ⟨pb,4,none⟩=some re:=Qaa h1 rfl;have f1:w1.frozen? ⟨pb,4,none⟩=false:=Qae h1 4;have H:=Hi (And.intro h1 (hX.set (p:=⟨pb,4,none⟩) (.inl rfl) (.iface 169 (.agg #[.string t,.string i]))));clear h h1 hX hb
 go_wp2;go_ret;exact⟨rfl,Qac (o:=4) H.out.1 _,H.out.2⟩
theorem set109_c(t i:ByteArray){w:World}{pb:Nat}{e an pr ac re cs fn off ln col:Value}(h:Qa8 w pb e an pr ac re cs fn off ln col):Calls Tryz.prog 109 #[.pointer (some ⟨pb,0,none⟩),.agg #[.string t,.string i]] w fun r w'=>r=.returned (.pointer (some ⟨pb,0,none⟩))∧Qa8 w' pb e an pr ac (.iface 171 (.agg #[.string t,.string i])) cs fn off ln col∧Ext (·=pb) w w':=by
 unfold Qa8 at h ⊢;have hl:=Qad h;go_enter Tryz.func109,Tryz.ntmps109
 go_wp2_with fail
 refine(QeZ t i _).mono ?_;rintro r w1⟨rfl,hb⟩;have hX:Ext (·=pb) w w1:=((Ext.refl _ w).alloc _).trans (.below hb);have h1:w1.heap[pb]? =_:=(hb.block pb (by simp;omega)).trans (Qaf h _);have c1:w1.cell? ⟨pb,4,none⟩=some re:=Qaa h1 rfl;have f1:w1.frozen? ⟨pb,4,none⟩=false:=Qae h1 4;have H:=Hi (And.intro h1 (hX.set (p:=⟨pb,4,none⟩) (.inl rfl) (.iface 171 (.agg #[.string t,.string i]))));clear h h1 hX hb
 go_wp2;go_ret;exact⟨rfl,Qac (o:=4) H.out.1 _,H.out.2⟩
theorem set108_c(s:ByteArray){w:World}{pb:Nat}{e an pr ac re cs fn off ln col:Value}(h:Qa8 w pb e an pr ac re cs fn off ln col):Calls Tryz.prog 108 #[.pointer (some ⟨pb,0,none⟩),.string s] w fun r w'=>r=.returned (.pointer (some ⟨pb,0,none⟩))∧Qa8 w' pb e an pr ac (.iface 176 (.agg #[.string s])) cs fn off ln col∧Ext (·=pb) w w':=by
 unfold Qa8 at h ⊢;have hl:=Qad h;go_enter Tryz.func108,Tryz.ntmps108
 go_wp2_with fail
 refine(QgW s _).mono ?_;rintro r w1⟨rfl,hb⟩;have hX:Ext (·=pb) w w1:=.below hb;have h1:w1.heap[pb]? =_:=(hb.block pb hl).trans h;have c1:w1.cell? ⟨pb,4,none⟩=some re:=Qaa h1 rfl;have f1:w1.frozen? ⟨pb,4,none⟩=false:=Qae h1 4;have H:=Hi (And.intro h1 (hX.set (p:=⟨pb,4,none⟩) (.inl rfl) (.iface 176 (.agg #[.string s]))));clear h h1 hX hb;go_wp2;go_ret;exact⟨rfl,Qac (o:=4) H.out.1 _,H.out.2⟩
theorem set107_c(s t i:ByteArray){w:World}{pb:Nat}{e an pr ac re cs fn off ln col:Value}(h:Qa8 w pb e an pr ac re cs fn off ln col):Calls Tryz.prog 107 #[.pointer (some ⟨pb,0,none⟩),.string s,.agg #[.string t,.string i]] w fun r w'=>r=.returned (.pointer (some ⟨pb,0,none⟩))∧Qa8 w' pb e an pr ac (.iface 178 (.agg #[.string s,.string t,.string i])) cs fn off ln col∧Ext (·=pb) w w':=by
 unfold Qa8 at h ⊢;have hl:=Qad h;go_enter Tryz.func107,Tryz.ntmps107
 go_wp2_with fail
 refine(QgV s t i _).mono ?_;rintro r w1⟨rfl,hb⟩;have hX:Ext (·=pb) w w1:=((Ext.refl _ w).alloc _).trans (.below hb);have h1:w1.heap[pb]? =_:=(hb.block pb (by simp;omega)).trans (Qaf h _);have c1:w1.cell? ⟨pb,4,none⟩=some re:=Qaa h1 rfl;have f1:w1.frozen? ⟨pb,4,none⟩=false:=Qae h1 4;have H:=Hi (And.intro h1 (hX.set (p:=⟨pb,4,none⟩) (.inl rfl) (.iface 178 (.agg #[.string s,.string t,.string i]))));clear h h1 hX hb
 go_wp2;go_ret;exact⟨rfl,Qac (o:=4) H.out.1 _,H.out.2⟩
end Go.Proofs.Pg
