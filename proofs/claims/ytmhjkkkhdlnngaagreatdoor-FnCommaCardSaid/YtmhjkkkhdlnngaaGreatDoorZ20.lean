/- FnComma: a last comma changes nothing; for every world. Part 20. -/
import Derived.Test.YtmhjkkkhdlnngaaGreatDoorZ19
import Derived.RegionTactic
set_option linter.all false
set_option maxRecDepth 100000
set_option maxHeartbeats 40000000
namespace Go.Proofs.Pg
open Go.RowKit
attribute [local go_sem] Oper.semAt_some
def EeRel(m:Nat→ByteArray→Toks→Option (Ex×Toks))(bp base N R:Nat)(w:World)(Rm:Option (Ex×Toks))(s:Value)(wr:World):Prop :=
 ∃g r vs,s=.string r∧m g r vs=Rm∧vs.length<g∧Wf vs∧vs.length≤N∧PS wr bp base vs∧wr.heap[R]? =some (.cells #[.nilIface] 299 (0,0))∧Ext (·=bp) w wr∧r.size+vs.length*1000002≤2000000000000
theorem entExt_w{L:Lex}(hL:LexC L)(hext:∀s,L.ext s=(extM s).map (·.2)){E:Toks→Option (Ex×Toks)}{bp base N:Nat}(hE:Sh E)(hX:Qg8 (⟨#[41]⟩:ByteArray) (Qbr E [41]) bp base N)
  (w:World)(ts:Toks)(r0:ByteArray)(g0:Nat)(hp:PS w bp base ts)(hwf:Wf ts)(hg0:ts.length<g0)(hN:ts.length≤N)(hbs:base≤w.heap.size)(hz:r0.size+ts.length*1000002≤2000000000000) :
  Calls Tryz.prog 273 #[.pointer (some ⟨bp,0,none⟩),.string r0] w (QfY bp base w (Qa1 L E g0 r0 ts)):=by
 have hbb:=hp.hbp;have h15:=hp.h15;have hlen:=hp.len;have HL:=Hi hX;have HE:=Hi hE;have HEX:=Hi hext;clear hX hE hext;go_enter Tryz.func273,Tryz.ntmps273
 go_upto_region 1 with(fail)
 obtain⟨w1,hw⟩:∃w1,(w.alloc (.cells #[.nilIface] 299))=w1:=⟨_,rfl⟩
 rw[hw];have hF:Below w.heap.size w w1:=by rw[←hw];exact Qab w _
 have hR1:w1.heap[w.heap.size]? =some (.cells #[.nilIface] 299 (0,0)):=by rw[←hw];exact Qah (by simp) _
 have hs1:w.heap.size+1≤w1.heap.size:=by rw[←hw];simp
 clear hw;have hX1:Ext (·=bp) w w1:=.below hF;have hp1:=hp.below hF;clear hp;clear hF
 go_loopw [1] (fun s wr=>EeRel (Qa1 L E) bp base ts.length (w.heap.size) w (Qa1 L E g0 r0 ts) s wr) (fun _ wr=>left wr bp)
 case atStart=>exact⟨g0,r0,ts,rfl,rfl,hg0,hwf,Nat.le_refl _,hp1,hR1,hX1,hz⟩
 case round =>
  clear hp1 hR1 hX1 hwf hg0 hz;obtain⟨wo,rfl⟩:∃wo:World,wo=wr:=⟨_,rfl⟩
  obtain⟨g,r1,vs,rfl,hg,hgl,hvw,hvN,hp_wo,hR_wo,hX_wo,hzr⟩:=hrel;have HG:=Hi hg;clear hg;cases g with
  | zero=>omega
  | succ g =>
  obtain⟨u,q,rfl⟩:∃u q,vs=u::q:=by cases vs with | nil=>exact absurd rfl hp_wo.ne | cons u q=>exact⟨u,q,rfl⟩
  have HLF:=Hi hp_wo.left;have hsz_wo:=hX_wo.size;have ltR:=Qad hR_wo;have hul:(u::q).length≤1000000:=hp_wo.len
  go_wp2_with fail
  refine(Qaz hp_wo).mono ?_;rintro e w2⟨rfl,hp2,hF⟩;have hR2:=hF.heap (by omega) hR_wo;have hs2:=hF.size;have hX2:=hX_wo.trans hF;clear hR_wo hX_wo hp_wo;clear hF
  go_upto_region 2 with(fail)
  obtain⟨w3,hw⟩:∃w3,w2.alloc (.cells #[.int .i64 u.ty,.string u.fn,.int .i64 u.off,.int .i64 u.ln,.int .i64 u.col,.string u.tx] 122)=w3:=⟨_,rfl⟩
  rw[hw];have hF:Below w2.heap.size w2 w3:=by rw[←hw];exact Qab _ _
  have hK3:w3.heap[w2.heap.size]? =some (.cells #[.int .i64 u.ty,.string u.fn,.int .i64 u.off,.int .i64 u.ln,.int .i64 u.col,.string u.tx] 122 (0,0)):=by rw[←hw];exact heap_alloc_new _ _
  have hs3:w2.heap.size+1≤w3.heap.size:=by rw[←hw];simp
  clear hw;have hR3:=Bk hF hR2;have hX3:=hX2.trans (.below hF);have hp3:=hp2.below hF;clear hR2 hX2 hp2;clear hF;have c_hK_5:=Qaa (o:=5) hK3 rfl;have hwa:=hvw.adv;cases ht:(u.tx.toList==[58,58])with
  | true =>
   have hla:(adv (u::q)).length<(u::q).length:=Qax hvw (s:=[58,58]) ht (by decide);obtain⟨u2,q2,ha2⟩:∃a b,adv (u::q)=a::b:=by
    cases h:adv (u::q)with
    | nil=>rw[h]at hwa;exact absurd rfl hwa.ne
    | cons a b=>exact⟨a,b,rfl⟩
   rw[ha2]at hwa hla hp3;have HA2:=Hi ha2;clear ha2;have htz:=hp3.sz
   go_wp2_with fail
   refine(Qaz hp3).mono ?_;rintro e w4⟨rfl,hp4,hF⟩;have hR4:=hF.heap (by omega) hR3;have hK4:=hF.heap (by omega) hK3;have hs4:=hF.size;have hX4:=hX3.trans hF;clear hR3 hK3 hX3 hp3 c_hK_5;clear hF;have hlb:(adv (u2::q2)).length≤(u2::q2).length:=(Qam hwa).len;clear hK4
   go_upto_region 7 with(fail)
   obtain⟨w5,hw⟩:∃w5,w4.alloc (.cells #[.int .i64 u2.ty,.string u2.fn,.int .i64 u2.off,.int .i64 u2.ln,.int .i64 u2.col,.string u2.tx] 122)=w5:=⟨_,rfl⟩
   rw[hw];have hF:Below w4.heap.size w4 w5:=by rw[←hw];exact Qab _ _
   have hK25:w5.heap[w4.heap.size]? =some (.cells #[.int .i64 u2.ty,.string u2.fn,.int .i64 u2.off,.int .i64 u2.ln,.int .i64 u2.col,.string u2.tx] 122 (0,0)):=by rw[←hw];exact heap_alloc_new _ _
   have hs5:w4.heap.size+1≤w5.heap.size:=by rw[←hw];simp
   clear hw;have hR5:=Bk hF hR4;have hX5:=hX4.trans (.below hF);have hp5:=hp4.below hF;clear hR4 hX4 hp4;clear hF;obtain⟨c_hK2_0,c_hK2_1,c_hK2_2,c_hK2_3,c_hK2_4,c_hK2_5⟩:=Cl6 hK25 rfl rfl rfl rfl rfl rfl
   go_wp2_with fail
   refine(Qbd u2 _).mono ?_;rintro e w6⟨rfl,hF⟩;have hR6:=Bk hF hR5;have hK26:=Bk hF hK25;have hs6:=hF.size;have hX6:=hX5.trans (.below hF);have hp6:=hp5.below hF;clear hR5 hK25 hX5 hp5 c_hK2_0 c_hK2_1 c_hK2_2 c_hK2_3 c_hK2_4 c_hK2_5;clear hF;cases hi:(u2.ty==1)with
   | true =>
    have c_hK2_5:=Qaa (o:=5) hK26 rfl;have e2:(⟨#[58,58]⟩:ByteArray).size=2:=rfl;have HGG:=Hi (show Qa1 L E g (r1++(⟨#[58,58]⟩:ByteArray)++u2.tx) (adv (u2::q2))=Qa1 L E g0 r0 ts by rw[←HG.out,Qa1];simp only[tx,Bool.false_eq_true,if_false,if_true,ty,hd,ht,HA2.out,hi]);go_wp2;go_roundw
    case rel=>exact⟨g,_,_,rfl,HGG.out,by omega,hwa.adv,by omega,hp6,hR6,hX6,by rw[ByteArray.size_append,ByteArray.size_append,e2];omega⟩
    case measure =>
     rw[hp6.left,HLF.out];omega
   | false =>
    obtain⟨c_hK2_0,c_hK2_1,c_hK2_2,c_hK2_3,c_hK2_4,c_hK2_5⟩:=Cl6 hK26 rfl rfl rfl rfl rfl rfl
    go_wp2_with fail
    refine(QbY u2 _).mono ?_;rintro e w7⟨rfl,hF⟩;have hR7:=Bk hF hR6;have hK27:=Bk hF hK26;have hs7:=hF.size;have hX7:=hX6.trans (.below hF);have hp7:=hp6.below hF;clear hR6 hK26 hX6 hp6 c_hK2_0 c_hK2_1 c_hK2_2 c_hK2_3 c_hK2_4 c_hK2_5;clear hF;cases hj:(u2.ty==4)with
    | false =>
     go_wp2_with fail
     refine(Qay hp7 _ _).mono ?_;rintro e w8⟨T9,v9,rfl,hF⟩;have hR8:=Bk hF hR7;have hK28:=Bk hF hK27;have hs8:=hF.size;have hX8:=hX7.trans (.below hF);have hp8:=hp7.below hF;clear hR7 hK27 hX7 hp7;clear hF;have c_hR_0:=Qaa (o:=0) hR8 rfl;have f_hR:=Qae hR8 0;have lt_hR:=Qad hR8;have HR:=Hi (show Qa1 L E g0 r0 ts=none by rw[←HG.out,Qa1];simp only[tx,Bool.false_eq_true,if_false,if_true,ty,hd,ht,HA2.out,hi,hj])
     have HB:=Hi hR8;clear hR8;go_wp2;refine Qai (R:=w.heap.size) _ 4 5 (by kernel_rfl) rfl rfl rfl (Qac (o:=0) HB.out _) ?_;exact(Qak HR.out (hX8.set (p:=⟨w.heap.size,0,none⟩) (.inr (show _≤w.heap.size by omega)) _))
    | true =>
     obtain⟨c_hK2_0,c_hK2_1,c_hK2_2,c_hK2_3,c_hK2_4,c_hK2_5⟩:=Cl6 hK27 rfl rfl rfl rfl rfl rfl
     go_wp2_with fail
     refine(hL.str u2 _ hp7.g (by omega) htz).mono ?_;rintro e w8⟨hF,hr⟩;have hR8:=Bk hF hR7;have hK28:=Bk hF hK27;have hs8:=hF.size;have hX8:=hX7.trans (.below hF);have hp8:=hp7.below hF;clear hR7 hK27 hX7 hp7 c_hK2_0 c_hK2_1 c_hK2_2 c_hK2_3 c_hK2_4 c_hK2_5;clear hF;cases hm:L.str u2.tx with
     | none =>
      rw[hm]at hr;obtain⟨s9,T9,v9,rfl⟩:=hr;have c_hR_0:=Qaa (o:=0) hR8 rfl;have f_hR:=Qae hR8 0;have lt_hR:=Qad hR8;have HR:=Hi (show Qa1 L E g0 r0 ts=none by rw[←HG.out,Qa1];simp only[tx,Bool.false_eq_true,if_false,if_true,ty,hd,ht,HA2.out,hi,hj,hm]);have HB:=Hi hR8;clear hR8;go_wp2;refine Qai (R:=w.heap.size) _ 4 5 (by kernel_rfl) rfl rfl rfl (Qac (o:=0) HB.out _) ?_;exact(Qak HR.out (hX8.set (p:=⟨w.heap.size,0,none⟩) (.inr (show _≤w.heap.size by omega)) _))
     | some s =>
      rw[hm]at hr;obtain⟨rfl,hsz⟩:=hr;have HM:=Hi hm;clear hm
      go_wp2_with fail
      refine(n298_c _ _ _).mono ?_;rintro e w9⟨rfl,hF⟩;have hR9:=Bk hF hR8;have hK29:=Bk hF hK28;have hs9:=hF.size;have hX9:=hX8.trans (.below hF);have hp_w9:=hp8.below hF;clear hR8 hK28 hX8 hp8;clear hF;have c_hR_0:=Qaa (o:=0) hR9 rfl;have f_hR:=Qae hR9 0;have lt_hR:=Qad hR9;have HR:=Hi (show Qa1 L E g0 r0 ts=some (.val (.uid r1 s),adv (u2::q2))by rw[←HG.out,Qa1];simp only[tx,Bool.false_eq_true,if_false,if_true,ty,hd,ht,HA2.out,hi,hj,HM.out])
      have HB:=Hi hR9;clear hR9;go_wp2;refine Qai (R:=w.heap.size) _ 4 5 (by kernel_rfl) rfl rfl rfl (Qac (o:=0) HB.out _) ?_;exact(Qal HR.out (hX9.set (p:=⟨w.heap.size,0,none⟩) (.inr (show _≤w.heap.size by omega)) _) (hp_w9.set (o:=0) (by omega) _) (NodeIs.store (o:=0) (.val (.uid r1 s)) HB.out (by decide) _))
  | false =>
   have hnc:=ht;clear ht;cases ht:(u.tx.toList==[40])with
   | false =>
    go_wp2_with fail
    refine(Qay hp3 _ _).mono ?_;rintro e w4⟨T9,v9,rfl,hF⟩;have hR4:=Bk hF hR3;have hK4:=Bk hF hK3;have hs4:=hF.size;have hX4:=hX3.trans (.below hF);have hp4:=hp3.below hF;clear hR3 hK3 hX3 hp3 c_hK_5;clear hF;have c_hR_0:=Qaa (o:=0) hR4 rfl;have f_hR:=Qae hR4 0;have lt_hR:=Qad hR4;have HR:=Hi (show Qa1 L E g0 r0 ts=none by rw[←HG.out,Qa1];simp only[tx,Bool.false_eq_true,if_false,if_true,ty,hd,hnc,ht])
    have HB:=Hi hR4;clear hR4;go_wp2;refine Qai (R:=w.heap.size) _ 4 5 (by kernel_rfl) rfl rfl rfl (Qac (o:=0) HB.out _) ?_;exact(Qak HR.out (hX4.set (p:=⟨w.heap.size,0,none⟩) (.inr (show _≤w.heap.size by omega)) _))
   | true =>
    have hla:(adv (u::q)).length<(u::q).length:=Qax hvw (s:=[40]) ht (by decide);have HACC:=Hi (show Qa1 L E g0 r0 ts=(match(extM r1).map (·.2)with
     | some false=>(match Qbr E [41] (adv (u::q))with
      | none=>none
      | some (l,us)=>some (.call r1 l,adv us))
     | _=>none)by
     rw[←HG.out,Qa1];simp only[tx,Bool.false_eq_true,if_false,if_true,ty,hd,hnc,ht,HEX.out];rcases extM r1 with _ | ⟨_,_ | _⟩<;>try rfl)
    go_wp2_with fail
    refine(Qfw _).mono ?_;rintro e w4⟨rfl,hw⟩;have hF:Below w3.heap.size w3 w4:=hw▸Qab _ _;have hmap:w4.heap[w3.heap.size]? =some (.map (extE 22) 22):=hw▸heap_alloc_new _ _;clear hw;have hR4:=Bk hF hR3;have hK4:=Bk hF hK3;have hs4:=hF.size;have hX4:=hX3.trans (.below hF);have hp4:=hp3.below hF;clear hR3 hK3 hX3 hp3 c_hK_5;clear hF;have hlk:=Qfx hmap r1;clear hmap;unfold extV at hlk;cases hem:extM r1 with
    | none =>
     rw[hem]at hlk;simp only at hlk;have HR0:=Hi (show Qa1 L E g0 r0 ts=none by rw[HACC.out,hem];rfl);clear hem
     go_upto_region 16 with(fail)
     obtain⟨w5,hw⟩:∃w5,w4.alloc (.cells #[.int .i64 0,.bool false] 420)=w5:=⟨_,rfl⟩
     rw[hw];have hF:Below w4.heap.size w4 w5:=by rw[←hw];exact Qab _ _
     have hB5:w5.heap[w4.heap.size]? =some (.cells #[.int .i64 0,.bool false] 420 (0,0)):=by rw[←hw];exact heap_alloc_new _ _
     have hs5:w4.heap.size+1≤w5.heap.size:=by rw[←hw];simp
     clear hw;have hR5:=Bk hF hR4;have hK5:=Bk hF hK4;have hX5:=hX4.trans (.below hF);have hp5:=hp4.below hF;clear hR4 hK4 hX4 hp4;clear hF;clear hlk
     go_wp2_with fail
     refine(Qay (hp5.below (Qab _ _)) _ _).mono ?_;rintro e w6⟨T9,v9,rfl,hF0⟩;have hF:=(Qab w5 (.cells #[.iface 9 (.string r1)] 20)).trans (hF0.mono (by simp));clear hF0;have hR6:=Bk hF hR5;have hK6:=Bk hF hK5;have hB6:=Bk hF hB5;have hs6:=hF.size;have hX6:=hX5.trans (.below hF);have hp6:=hp5.below hF;clear hR5 hK5 hB5 hX5 hp5;clear hF;have c_hR_0:=Qaa (o:=0) hR6 rfl;have f_hR:=Qae hR6 0;have lt_hR:=Qad hR6
     have HR:=Hi (HR0.out);have HB:=Hi hR6;clear hR6;go_wp2;refine Qai (R:=w.heap.size) _ 4 5 (by kernel_rfl) rfl rfl rfl (Qac (o:=0) HB.out _) ?_;exact(Qak HR.out (hX6.set (p:=⟨w.heap.size,0,none⟩) (.inr (show _≤w.heap.size by omega)) _))
    | some pe =>
     obtain⟨ne,me⟩:=pe;rw[hem]at hlk;simp only at hlk;cases me with
     | true =>
      have HR0:=Hi (show Qa1 L E g0 r0 ts=none by rw[HACC.out,hem];rfl);clear hem
      go_upto_region 16 with(fail)
      obtain⟨w5,hw⟩:∃w5,w4.alloc (.cells #[.int .i64 ne,.bool true] 420)=w5:=⟨_,rfl⟩
      rw[hw];have hF:Below w4.heap.size w4 w5:=by rw[←hw];exact Qab _ _
      have hB5:w5.heap[w4.heap.size]? =some (.cells #[.int .i64 ne,.bool true] 420 (0,0)):=by rw[←hw];exact heap_alloc_new _ _
      have hs5:w4.heap.size+1≤w5.heap.size:=by rw[←hw];simp
      clear hw;have hR5:=Bk hF hR4;have hK5:=Bk hF hK4;have hX5:=hX4.trans (.below hF);have hp5:=hp4.below hF;clear hR4 hK4 hX4 hp4;clear hF;clear hlk;have c_hB_1:=Qaa (o:=1) hB5 rfl
      go_wp2_with fail
      refine(Qay (hp5.below (Qab _ _)) _ _).mono ?_;rintro e w6⟨T9,v9,rfl,hF0⟩;have hF:=(Qab w5 (.cells #[.iface 9 (.string r1)] 20)).trans (hF0.mono (by simp));clear hF0;have hR6:=Bk hF hR5;have hK6:=Bk hF hK5;have hB6:=Bk hF hB5;have hs6:=hF.size;have hX6:=hX5.trans (.below hF);have hp6:=hp5.below hF;clear hR5 hK5 hB5 hX5 hp5 c_hB_1;clear hF;have c_hR_0:=Qaa (o:=0) hR6 rfl;have f_hR:=Qae hR6 0;have lt_hR:=Qad hR6
      have HR:=Hi (HR0.out);have HB:=Hi hR6;clear hR6;go_wp2;refine Qai (R:=w.heap.size) _ 4 5 (by kernel_rfl) rfl rfl rfl (Qac (o:=0) HB.out _) ?_;exact(Qak HR.out (hX6.set (p:=⟨w.heap.size,0,none⟩) (.inr (show _≤w.heap.size by omega)) _))
     | false =>
      have HR2:=Hi (show Qa1 L E g0 r0 ts=(match Qbr E [41] (adv (u::q))with
        | none=>none
        | some (l,us)=>some (.call r1 l,adv us))by rw[HACC.out,hem];rfl)
      clear hem
      go_upto_region 16 with(fail)
      obtain⟨w5,hw⟩:∃w5,w4.alloc (.cells #[.int .i64 ne,.bool false] 420)=w5:=⟨_,rfl⟩
      rw[hw];have hF:Below w4.heap.size w4 w5:=by rw[←hw];exact Qab _ _
      have hB5:w5.heap[w4.heap.size]? =some (.cells #[.int .i64 ne,.bool false] 420 (0,0)):=by rw[←hw];exact heap_alloc_new _ _
      have hs5:w4.heap.size+1≤w5.heap.size:=by rw[←hw];simp
      clear hw;have hR5:=Bk hF hR4;have hK5:=Bk hF hK4;have hX5:=hX4.trans (.below hF);have hp5:=hp4.below hF;clear hR4 hK4 hX4 hp4;clear hF;clear hlk;have c_hB_1:=Qaa (o:=1) hB5 rfl
      go_wp2_with fail
      refine(HL.out _ _ hp5 hwa (by omega) (by omega)).mono ?_;rintro e w6⟨hF,hr⟩;have hR6:=hF.heap (by omega) hR5;have hK6:=hF.heap (by omega) hK5;have hB6:=hF.heap (by omega) hB5;have hs6:=hF.size;have hX6:=hX5.trans hF;clear hR5 hK5 hB5 hX5 c_hB_1;clear hF;cases hm:Qbr E [41] (adv (u::q))with
      | none =>
       rw[hm]at hr;obtain⟨s9,T9,v9,rfl⟩:=hr;have c_hR_0:=Qaa (o:=0) hR6 rfl;have f_hR:=Qae hR6 0;have lt_hR:=Qad hR6;have HR:=Hi (show Qa1 L E g0 r0 ts=none by rw[HR2.out,hm]);have HB:=Hi hR6;clear hR6;go_wp2;refine Qai (R:=w.heap.size) _ 4 5 (by kernel_rfl) rfl rfl rfl (Qac (o:=0) HB.out _) ?_;exact(Qak HR.out (hX6.set (p:=⟨w.heap.size,0,none⟩) (.inr (show _≤w.heap.size by omega)) _))
      | some p2 =>
       obtain⟨l,us⟩:=p2;rw[hm]at hr;obtain⟨s9,vals,rfl,hp9,hO6,hm6,hll⟩:=hr;have HR3:=Hi (show Qa1 L E g0 r0 ts=some (.call r1 l,adv us)by rw[HR2.out,hm]);clear hm;obtain⟨u4,q4,rfl⟩:∃u q,us=u::q:=by cases us with | nil=>exact absurd rfl hp9.ne | cons u q=>exact⟨u,q,rfl⟩
       go_wp2_with fail
       refine(Qaz hp9).mono ?_;rintro e w7⟨rfl,hp7,hF⟩;have hm7:=hm6.keep hF (fun d hd=>by omega);have hR7:=hF.heap (by omega) hR6;have hK7:=hF.heap (by omega) hK6;have hB7:=hF.heap (by omega) hB6;have hO7:=Qaj hO6 hF (fun d hd=>by omega);have hs7:=hF.size;have hX7:=hX6.trans hF;clear hm6 hR6 hK6 hB6 hO6 hX6 hp9;clear hF
       go_wp2_with fail
       refine(n299_c r1 (by omega) hO7 hm7 hll).mono ?_;rintro e w8⟨hF,T9,v9,rfl,hz8⟩;clear hm7 hO7;have hR8:=Bk hF hR7;have hK8:=Bk hF hK7;have hB8:=Bk hF hB7;have hs8:=hF.size;have hX8:=hX7.trans (.below hF);have hp8:=hp7.below hF;clear hR7 hK7 hB7 hX7 hp7;clear hF;have c_hR_0:=Qaa (o:=0) hR8 rfl;have f_hR:=Qae hR8 0;have lt_hR:=Qad hR8;have HR:=Hi (HR3.out);have HB:=Hi hR8;clear hR8;go_wp2;refine Qai (R:=w.heap.size) _ 4 5 (by kernel_rfl) rfl rfl rfl (Qac (o:=0) HB.out _) ?_
       exact(Qal HR.out (hX8.set (p:=⟨w.heap.size,0,none⟩) (.inr (show _≤w.heap.size by omega)) _) (hp8.set (o:=0) (by omega) _) (NodeIs.store (o:=0) (hz8) HB.out (by decide) _))
theorem QeU{P:Program}{fn:Func}{a u v:Tmp}{t:TypeId}(h:fn.results=#[.tmp u,.cell a t,.tmp v])(tmps:Array Value)(p:Addr)(hp:tmps.getD a undef=.pointer (some p))(w:World)(x:Value)(hv:(loadVar t p).run P w=.ok x w) :
  (results fn tmps).run P w=.ok (.tuple #[tmps.getD u undef,x,tmps.getD v undef]) w:=by
 have hp':tmps[a]?.getD undef=.pointer (some p):=by simpa using hp
 simp only[results,h];simp[asAddr,hp',hv,Sem.run_bind,Result.andThen_ok,Sem.run_pure]
theorem Qcl{W:World}{fn:Func}{R:Nat}{v k err:Value}{Q:Ending→World→Prop}(a:Act)(hf:fn.results=#[.tmp 2,.cell 3 299,.tmp 4])(ha:a.tmps.getD 3 undef=.pointer (some ⟨R,0,none⟩))(hb:a.tmps.getD 2 undef=k)(he:a.tmps.getD 4 undef=err)(had:a.defers=[])
  (r:W.heap[R]? =some (.cells #[v] 299 (0,0)))(h:Q (.returned (.tuple #[k,.agg #[v],err])) W):bodyPost Tryz.prog fn Q Exit.ret a W:=by
 refine bodyPost_ret (QeU (a:=3) (u:=2) (v:=4) (t:=299) hf _ ⟨R,0,none⟩ ha _ _ (QcP _ _ _ _ (by kernel_rfl) (by kernel_rfl) (Qaa (o:=0) r rfl))) had ?_;rw[he,hb];exact h
def QgR(bp base:Nat)(w:World)(r:Option ((ByteArray×Ex)×Toks))(e:Ending)(w':World):Prop :=
 Ext (·=bp) w w'∧match r with
 | none=>∃k T v,e=.returned (.tuple #[.string k,.agg #[.nilIface],.iface T v])
 | some ((k,x),us)=>∃T v,e=.returned (.tuple #[.string k,.agg #[.iface T v],.nilIface])∧PS w' bp base us∧NodeIs w' base (.iface T v) x
theorem Qbv{bp base:Nat}{w w':World}{r:Option ((ByteArray×Ex)×Toks)}{T:TypeId}{v:Value}{k:ByteArray}(h:r=none)(hX:Ext (·=bp) w w'):QgR bp base w r (.returned (.tuple #[.string k,.agg #[.nilIface],.iface T v])) w':=by subst h;exact⟨hX,_,_,_,rfl⟩
theorem Qdp{bp base:Nat}{w w':World}{us:Toks}{r:Option ((ByteArray×Ex)×Toks)}{T:TypeId}{v:Value}{k:ByteArray}{x:Ex}(h:r=some ((k,x),us))(hX:Ext (·=bp) w w')(hp:PS w' bp base us)(hn:NodeIs w' base (.iface T v) x):QgR bp base w r (.returned (.tuple #[.string k,.agg #[.iface T v],.nilIface])) w':=by subst h;exact⟨hX,_,_,rfl,hp,hn⟩
theorem entry_w{L:Lex}(hL:LexC L){E:Toks→Option (Ex×Toks)}{bp base N:Nat}(hE:Sh E)(hC:FnC 149 E bp base N)
  (w:World)(ts:Toks)(hp:PS w bp base ts)(hwf:Wf ts)(hN:ts.length≤N)(hbs:base≤w.heap.size) :
  Calls Tryz.prog 306 #[.pointer (some ⟨bp,0,none⟩)] w (QgR bp base w (entry L E ts)):=by
 have hbb:=hp.hbp;have h15:=hp.h15;have hlen:=hp.len;have HC:=Hi hC;have HE:=Hi hE;clear hC hE;obtain⟨u,q,rfl⟩:∃u q,ts=u::q:=by cases ts with | nil=>exact absurd rfl hp.ne | cons u q=>exact⟨u,q,rfl⟩
 have htz:=hp.sz;have hwa:=hwf.adv;have hla:(adv (u::q)).length≤(u::q).length:=(Qam hwf).len;go_enter Tryz.func306,Tryz.ntmps306
 go_upto_region 3 with(fail)
 obtain⟨w1,hw⟩:∃w1,((w.alloc (.cells #[.nilIface] 299)).alloc (.cells #[.nilIface] 299))=w1:=⟨_,rfl⟩
 rw[hw];have hF:Below w.heap.size w w1:=by rw[←hw];exact(Qab w _).alloc (by simp) _
 have hR1:w1.heap[w.heap.size]? =some (.cells #[.nilIface] 299 (0,0)):=by rw[←hw];exact Qaf (Qah (by simp) _) _
 have hV1:w1.heap[w.heap.size+1]? =some (.cells #[.nilIface] 299 (0,0)):=by rw[←hw];exact Qah (by simp) _
 have hs1:w.heap.size+2≤w1.heap.size:=by rw[←hw];simp
 clear hw;have hX1:Ext (·=bp) w w1:=.below hF;have hp1:=hp.below hF;clear hp;clear hF
 go_wp2_with fail
 refine(Qaz hp1).mono ?_;rintro e w2⟨rfl,hp2,hF⟩;have hR2:=hF.heap (by omega) hR1;have hV2:=hF.heap (by omega) hV1;have hs2:=hF.size;have hX2:=hX1.trans hF;clear hR1 hV1 hX1 hp1;clear hF
 go_wp2_with fail
 obtain⟨w3,hw⟩:∃w3,w2.alloc (.cells #[.int .i64 u.ty,.string u.fn,.int .i64 u.off,.int .i64 u.ln,.int .i64 u.col,.string u.tx] 122)=w3:=⟨_,rfl⟩
 rw[hw];have hF:Below w2.heap.size w2 w3:=by rw[←hw];exact Qab _ _
 have hK3:w3.heap[w2.heap.size]? =some (.cells #[.int .i64 u.ty,.string u.fn,.int .i64 u.off,.int .i64 u.ln,.int .i64 u.col,.string u.tx] 122 (0,0)):=by rw[←hw];exact heap_alloc_new _ _
 have hs3:w2.heap.size+1≤w3.heap.size:=by rw[←hw];simp
 clear hw;have hR3:=Bk hF hR2;have hV3:=Bk hF hV2;have hX3:=hX2.trans (.below hF);have hp3:=hp2.below hF;clear hR2 hV2 hX2 hp2;clear hF;obtain⟨c_hK_0,c_hK_1,c_hK_2,c_hK_3,c_hK_4,c_hK_5⟩:=Cl6 hK3 rfl rfl rfl rfl rfl rfl
 go_wp2_with fail
 refine(Qbd u _).mono ?_;rintro e w4⟨rfl,hF⟩;have hR4:=Bk hF hR3;have hV4:=Bk hF hV3;have hK4:=Bk hF hK3;have hs4:=hF.size;have hX4:=hX3.trans (.below hF);have hp4:=hp3.below hF;clear hR3 hV3 hK3 hX3 hp3 c_hK_0 c_hK_1 c_hK_2 c_hK_3 c_hK_4 c_hK_5;clear hF;cases hi:(u.ty==1)with
 | true =>
  have c_hK_5:=Qaa (o:=5) hK4 rfl
  go_wp2_with fail
  clear c_hK_5;have HKEY:=Hi (show key L (u::q)=some u.tx by unfold Pg.key;simp[ty,hd,hi]);obtain⟨u2,q2,ha2⟩:∃a b,adv (u::q)=a::b:=by
   cases h:adv (u::q)with
   | nil=>rw[h]at hwa;exact absurd rfl hwa.ne
   | cons a b=>exact⟨a,b,rfl⟩
  rw[ha2]at hwa hla hp4;have HA2:=Hi ha2;clear ha2;cases hj:(u2.tx.toList==[58])with
  | false =>
   go_wp2_with fail
   refine(Qa9 hp4 hj).mono ?_;rintro e w5⟨T9,v9,rfl,hp5,hF⟩;have hR5:=hF.heap (by omega) hR4;have hV5:=hF.heap (by omega) hV4;have hK5:=hF.heap (by omega) hK4;have hs5:=hF.size;have hX5:=hX4.trans hF;clear hR4 hV4 hK4 hX4 hp4;clear hF;have c_hR_0:=Qaa (o:=0) hR5 rfl;have f_hR:=Qae hR5 0;have c_hV_0:=Qaa (o:=0) hV5 rfl;have lt_hR:=Qad hR5;have lt_hV:=Qad hV5;have HR:=Hi (show entry L E (u::q)=none by unfold Pg.entry;rw[HKEY.out];simp[HA2.out,exact,tx,hj])
   have HB:=Hi hR5;clear hR5 hV5;go_wp2
   go_region
   all_goals go_wp2
   refine Qcl (R:=w.heap.size) _ (by kernel_rfl) rfl rfl rfl rfl (Qac (o:=0) (show(World.drew _).heap[_]? =_ from HB.out) _) ?_;exact Qbv HR.out (hX5.drew.set (p:=⟨w.heap.size,0,none⟩) (.inr (show _≤w.heap.size by omega)) _)
  | true =>
   have hlb:(adv (u2::q2)).length≤(u2::q2).length:=(Qam hwa).len
   go_wp2_with fail
   refine(Qa0 hp4 hj).mono ?_;rintro e w5⟨rfl,hp5,hF⟩;have hR5:=hF.heap (by omega) hR4;have hV5:=hF.heap (by omega) hV4;have hK5:=hF.heap (by omega) hK4;have hs5:=hF.size;have hX5:=hX4.trans hF;clear hR4 hV4 hK4 hX4 hp4;clear hF
   go_wp2_with fail
   refine(HC.out _ _ hp5 hwa.adv (by omega) (by omega)).mono ?_;rintro e w6⟨hF,hr⟩;have hR6:=hF.heap (by omega) hR5;have hV6:=hF.heap (by omega) hV5;have hK6:=hF.heap (by omega) hK5;have hs6:=hF.size;have hX6:=hX5.trans hF;clear hR5 hV5 hK5 hX5;clear hF;cases hm:E (adv (u2::q2))with
   | none =>
    rw[hm]at hr;obtain⟨T9,v9,rfl⟩:=hr;have c_hV_0:=Qaa (o:=0) hV6 rfl;have f_hV:=Qae hV6 0;have lt_hV:=Qad hV6;have lt_hR:=Qad hR6;have HV:=Hi hV6
    go_upto_region 17 with(fail)
    obtain⟨w7,hw⟩:∃w7,w6.setCell ⟨w.heap.size+1,0,none⟩ (.nilIface)=w7:=⟨_,rfl⟩
    rw[hw];have hR7:w7.heap[w.heap.size]? =some (.cells #[.nilIface] 299 (0,0)):=hw▸Qag (o:=0) hR6 (by omega) (.nilIface);have hV7:w7.heap[w.heap.size+1]? =some (.cells #[.nilIface] 299 (0,0)):=hw▸Qac (o:=0) hV6 (.nilIface);have hK7:w7.heap[w2.heap.size]? =some (.cells #[.int .i64 u.ty,.string u.fn,.int .i64 u.off,.int .i64 u.ln,.int .i64 u.col,.string u.tx] 122 (0,0)):=hw▸Qag (o:=0) hK6 (by omega) (.nilIface)
    have hX7:Ext (·=bp) w w7:=hw▸hX6.set (p:=⟨w.heap.size+1,0,none⟩) (.inr (show w.heap.size≤w.heap.size+1 by omega)) (.nilIface);have hs7:w6.heap.size≤w7.heap.size:=by rw[←hw];simp
    clear hR6 hV6 hK6 hX6 c_hV_0 f_hV lt_hV lt_hR hw;have c_hR_0:=Qaa (o:=0) hR7 rfl;have f_hR:=Qae hR7 0;have c_hV_0:=Qaa (o:=0) hV7 rfl;have lt_hR:=Qad hR7;have lt_hV:=Qad hV7;have HR:=Hi (show entry L E (u::q)=none by unfold Pg.entry;rw[HKEY.out];simp[HA2.out,exact,tx,hj,hm]);have HB:=Hi hR7;clear hR7 hV7;go_wp2
    go_region
    all_goals go_wp2
    refine Qcl (R:=w.heap.size) _ (by kernel_rfl) rfl rfl rfl rfl (Qac (o:=0) (show(World.drew _).heap[_]? =_ from HB.out) _) ?_;exact Qbv HR.out (hX7.drew.set (p:=⟨w.heap.size,0,none⟩) (.inr (show _≤w.heap.size by omega)) _)
   | some p2 =>
    obtain⟨x,us⟩:=p2;rw[hm]at hr;obtain⟨T9,v9,rfl,hp9,hn6⟩:=hr;have HM:=Hi hm;clear hm;have c_hV_0:=Qaa (o:=0) hV6 rfl;have f_hV:=Qae hV6 0;have lt_hV:=Qad hV6;have lt_hR:=Qad hR6
    go_upto_region 17 with(fail)
    obtain⟨w7,hw⟩:∃w7,w6.setCell ⟨w.heap.size+1,0,none⟩ (.iface T9 v9)=w7:=⟨_,rfl⟩
    rw[hw];have hn7:NodeIs w7 base _ _:=hw▸hn6.store (o:=0) hV6 (by decide) (.iface T9 v9);have hR7:w7.heap[w.heap.size]? =some (.cells #[.nilIface] 299 (0,0)):=hw▸Qag (o:=0) hR6 (by omega) (.iface T9 v9);have hV7:w7.heap[w.heap.size+1]? =some (.cells #[.iface T9 v9] 299 (0,0)):=hw▸Qac (o:=0) hV6 (.iface T9 v9);have hK7:w7.heap[w2.heap.size]? =some (.cells #[.int .i64 u.ty,.string u.fn,.int .i64 u.off,.int .i64 u.ln,.int .i64 u.col,.string u.tx] 122 (0,0)):=hw▸Qag (o:=0) hK6 (by omega) (.iface T9 v9)
    have hX7:Ext (·=bp) w w7:=hw▸hX6.set (p:=⟨w.heap.size+1,0,none⟩) (.inr (show w.heap.size≤w.heap.size+1 by omega)) (.iface T9 v9);have hs7:w6.heap.size≤w7.heap.size:=by rw[←hw];simp
    have hp7:PS w7 bp base _:=hw▸hp9.set (o:=0) (show base≤w.heap.size+1 by omega) (.iface T9 v9);clear hn6 hR6 hV6 hK6 hX6 hp9 c_hV_0 f_hV lt_hV lt_hR hw;have c_hR_0:=Qaa (o:=0) hR7 rfl;have f_hR:=Qae hR7 0;have c_hV_0:=Qaa (o:=0) hV7 rfl;have lt_hR:=Qad hR7;have lt_hV:=Qad hV7;have HR:=Hi (show entry L E (u::q)=some ((u.tx,x),us)by unfold Pg.entry;rw[HKEY.out];simp[HA2.out,exact,tx,hj,HM.out]);have HB:=Hi hR7;clear hR7 hV7
    go_wp2
    go_region
    all_goals go_wp2
    have hB9:(World.drew w7).heap[w.heap.size]? =some (.cells #[.nilIface] 299 (0,0)):=HB.out;have hd9:Ext (fun _=>False) w7 (World.drew w7):=(Ext.refl _ _).drew;refine Qcl (R:=w.heap.size) _ (by kernel_rfl) rfl rfl rfl rfl (Qac (o:=0) hB9 _) ?_;exact Qdp HR.out (hX7.drew.set (p:=⟨w.heap.size,0,none⟩) (.inr (show _≤w.heap.size by omega)) _) ((hp7.ext hd9 (fun _ k=>k.elim)).set (o:=0) (by omega) _) ((hn7.ext hd9 (fun _ k=>k.elim)).store (o:=0) hB9 (by decide) _)
 | false =>
  obtain⟨c_hK_0,c_hK_1,c_hK_2,c_hK_3,c_hK_4,c_hK_5⟩:=Cl6 hK4 rfl rfl rfl rfl rfl rfl
  go_wp2_with fail
  refine(QbY u _).mono ?_;rintro e w5⟨rfl,hF⟩;have hR5:=Bk hF hR4;have hV5:=Bk hF hV4;have hK5:=Bk hF hK4;have hs5:=hF.size;have hX5:=hX4.trans (.below hF);have hp5:=hp4.below hF;clear hR4 hV4 hK4 hX4 hp4 c_hK_0 c_hK_1 c_hK_2 c_hK_3 c_hK_4 c_hK_5;clear hF;cases hk:(u.ty==4)with
  | false =>
   go_wp2_with fail
   refine(Qay hp5 _ _).mono ?_;rintro e w6⟨T9,v9,rfl,hF⟩;have hR6:=Bk hF hR5;have hV6:=Bk hF hV5;have hK6:=Bk hF hK5;have hs6:=hF.size;have hX6:=hX5.trans (.below hF);have hp6:=hp5.below hF;clear hR5 hV5 hK5 hX5 hp5;clear hF;have c_hR_0:=Qaa (o:=0) hR6 rfl;have f_hR:=Qae hR6 0;have lt_hR:=Qad hR6;have HR:=Hi (show entry L E (u::q)=none by unfold Pg.entry Pg.key;simp[ty,hd,hi,hk]);have HB:=Hi hR6;clear hR6
   go_wp2;refine Qcl (R:=w.heap.size) _ (by kernel_rfl) rfl rfl rfl rfl (Qac (o:=0) HB.out _) ?_;exact Qbv HR.out (hX6.set (p:=⟨w.heap.size,0,none⟩) (.inr (show _≤w.heap.size by omega)) _)
  | true =>
   obtain⟨c_hK_0,c_hK_1,c_hK_2,c_hK_3,c_hK_4,c_hK_5⟩:=Cl6 hK5 rfl rfl rfl rfl rfl rfl
   go_wp2_with fail
   refine(hL.str u _ hp5.g (by omega) htz).mono ?_;rintro e w6⟨hF,hr⟩;have hR6:=Bk hF hR5;have hV6:=Bk hF hV5;have hK6:=Bk hF hK5;have hs6:=hF.size;have hX6:=hX5.trans (.below hF);have hp6:=hp5.below hF;clear hR5 hV5 hK5 hX5 hp5 c_hK_0 c_hK_1 c_hK_2 c_hK_3 c_hK_4 c_hK_5;clear hF;cases hm:L.str u.tx with
   | none =>
    rw[hm]at hr;obtain⟨s9,T9,v9,rfl⟩:=hr;have c_hR_0:=Qaa (o:=0) hR6 rfl;have f_hR:=Qae hR6 0;have c_hV_0:=Qaa (o:=0) hV6 rfl;have lt_hR:=Qad hR6;have lt_hV:=Qad hV6;have HR:=Hi (show entry L E (u::q)=none by unfold Pg.entry Pg.key;simp[ty,hd,hi,hk,hm]);have HB:=Hi hR6;clear hR6 hV6;go_wp2
    go_region
    all_goals go_wp2
    refine Qcl (R:=w.heap.size) _ (by kernel_rfl) rfl rfl rfl rfl (Qac (o:=0) (show(World.drew _).heap[_]? =_ from HB.out) _) ?_;exact Qbv HR.out (hX6.drew.set (p:=⟨w.heap.size,0,none⟩) (.inr (show _≤w.heap.size by omega)) _)
   | some s =>
    rw[hm]at hr;obtain⟨rfl,hsz⟩:=hr;have HSM:=Hi hm;clear hm;have HKEY:=Hi (show key L (u::q)=some s by unfold Pg.key;simp[ty,hd,hi,hk,HSM.out]);obtain⟨u2,q2,ha2⟩:∃a b,adv (u::q)=a::b:=by
     cases h:adv (u::q)with
     | nil=>rw[h]at hwa;exact absurd rfl hwa.ne
     | cons a b=>exact⟨a,b,rfl⟩
    rw[ha2]at hwa hla hp6;have HA2:=Hi ha2;clear ha2;cases hj:(u2.tx.toList==[58])with
    | false =>
     go_wp2_with fail
     refine(Qa9 hp6 hj).mono ?_;rintro e w7⟨T9,v9,rfl,hp7,hF⟩;have hR7:=hF.heap (by omega) hR6;have hV7:=hF.heap (by omega) hV6;have hK7:=hF.heap (by omega) hK6;have hs7:=hF.size;have hX7:=hX6.trans hF;clear hR6 hV6 hK6 hX6 hp6;clear hF;have c_hR_0:=Qaa (o:=0) hR7 rfl;have f_hR:=Qae hR7 0;have c_hV_0:=Qaa (o:=0) hV7 rfl;have lt_hR:=Qad hR7;have lt_hV:=Qad hV7;have HR:=Hi (show entry L E (u::q)=none by unfold Pg.entry;rw[HKEY.out];simp[HA2.out,exact,tx,hj])
     have HB:=Hi hR7;clear hR7 hV7;go_wp2
     go_region
     all_goals go_wp2
     refine Qcl (R:=w.heap.size) _ (by kernel_rfl) rfl rfl rfl rfl (Qac (o:=0) (show(World.drew _).heap[_]? =_ from HB.out) _) ?_;exact Qbv HR.out (hX7.drew.set (p:=⟨w.heap.size,0,none⟩) (.inr (show _≤w.heap.size by omega)) _)
    | true =>
     have hlb:(adv (u2::q2)).length≤(u2::q2).length:=(Qam hwa).len
     go_wp2_with fail
     refine(Qa0 hp6 hj).mono ?_;rintro e w7⟨rfl,hp7,hF⟩;have hR7:=hF.heap (by omega) hR6;have hV7:=hF.heap (by omega) hV6;have hK7:=hF.heap (by omega) hK6;have hs7:=hF.size;have hX7:=hX6.trans hF;clear hR6 hV6 hK6 hX6 hp6;clear hF
     go_wp2_with fail
     refine(HC.out _ _ hp7 hwa.adv (by omega) (by omega)).mono ?_;rintro e w8⟨hF,hr⟩;have hR8:=hF.heap (by omega) hR7;have hV8:=hF.heap (by omega) hV7;have hK8:=hF.heap (by omega) hK7;have hs8:=hF.size;have hX8:=hX7.trans hF;clear hR7 hV7 hK7 hX7;clear hF;cases hm:E (adv (u2::q2))with
     | none =>
      rw[hm]at hr;obtain⟨T9,v9,rfl⟩:=hr;have c_hV_0:=Qaa (o:=0) hV8 rfl;have f_hV:=Qae hV8 0;have lt_hV:=Qad hV8;have lt_hR:=Qad hR8;have HV:=Hi hV8
      go_upto_region 17 with(fail)
      obtain⟨w9,hw⟩:∃w9,w8.setCell ⟨w.heap.size+1,0,none⟩ (.nilIface)=w9:=⟨_,rfl⟩
      rw[hw];have hR9:w9.heap[w.heap.size]? =some (.cells #[.nilIface] 299 (0,0)):=hw▸Qag (o:=0) hR8 (by omega) (.nilIface);have hV9:w9.heap[w.heap.size+1]? =some (.cells #[.nilIface] 299 (0,0)):=hw▸Qac (o:=0) hV8 (.nilIface);have hK9:w9.heap[w2.heap.size]? =some (.cells #[.int .i64 u.ty,.string u.fn,.int .i64 u.off,.int .i64 u.ln,.int .i64 u.col,.string u.tx] 122 (0,0)):=hw▸Qag (o:=0) hK8 (by omega) (.nilIface)
      have hX9:Ext (·=bp) w w9:=hw▸hX8.set (p:=⟨w.heap.size+1,0,none⟩) (.inr (show w.heap.size≤w.heap.size+1 by omega)) (.nilIface);have hs9:w8.heap.size≤w9.heap.size:=by rw[←hw];simp
      clear hR8 hV8 hK8 hX8 c_hV_0 f_hV lt_hV lt_hR hw;have c_hR_0:=Qaa (o:=0) hR9 rfl;have f_hR:=Qae hR9 0;have c_hV_0:=Qaa (o:=0) hV9 rfl;have lt_hR:=Qad hR9;have lt_hV:=Qad hV9;have HR:=Hi (show entry L E (u::q)=none by unfold Pg.entry;rw[HKEY.out];simp[HA2.out,exact,tx,hj,hm]);have HB:=Hi hR9;clear hR9 hV9;go_wp2
      go_region
      all_goals go_wp2
      refine Qcl (R:=w.heap.size) _ (by kernel_rfl) rfl rfl rfl rfl (Qac (o:=0) (show(World.drew _).heap[_]? =_ from HB.out) _) ?_;exact Qbv HR.out (hX9.drew.set (p:=⟨w.heap.size,0,none⟩) (.inr (show _≤w.heap.size by omega)) _)
     | some p2 =>
      obtain⟨x,us⟩:=p2;rw[hm]at hr;obtain⟨T9,v9,rfl,hp9,hn8⟩:=hr;have HM:=Hi hm;clear hm;have c_hV_0:=Qaa (o:=0) hV8 rfl;have f_hV:=Qae hV8 0;have lt_hV:=Qad hV8;have lt_hR:=Qad hR8
      go_upto_region 17 with(fail)
      obtain⟨w9,hw⟩:∃w9,w8.setCell ⟨w.heap.size+1,0,none⟩ (.iface T9 v9)=w9:=⟨_,rfl⟩
      rw[hw];have hn9:NodeIs w9 base _ _:=hw▸hn8.store (o:=0) hV8 (by decide) (.iface T9 v9);have hR9:w9.heap[w.heap.size]? =some (.cells #[.nilIface] 299 (0,0)):=hw▸Qag (o:=0) hR8 (by omega) (.iface T9 v9);have hV9:w9.heap[w.heap.size+1]? =some (.cells #[.iface T9 v9] 299 (0,0)):=hw▸Qac (o:=0) hV8 (.iface T9 v9);have hK9:w9.heap[w2.heap.size]? =some (.cells #[.int .i64 u.ty,.string u.fn,.int .i64 u.off,.int .i64 u.ln,.int .i64 u.col,.string u.tx] 122 (0,0)):=hw▸Qag (o:=0) hK8 (by omega) (.iface T9 v9)
      have hX9:Ext (·=bp) w w9:=hw▸hX8.set (p:=⟨w.heap.size+1,0,none⟩) (.inr (show w.heap.size≤w.heap.size+1 by omega)) (.iface T9 v9);have hs9:w8.heap.size≤w9.heap.size:=by rw[←hw];simp
      have hp_w9:PS w9 bp base _:=hw▸hp9.set (o:=0) (show base≤w.heap.size+1 by omega) (.iface T9 v9);clear hn8 hR8 hV8 hK8 hX8 hp9 c_hV_0 f_hV lt_hV lt_hR hw;have c_hR_0:=Qaa (o:=0) hR9 rfl;have f_hR:=Qae hR9 0;have c_hV_0:=Qaa (o:=0) hV9 rfl;have lt_hR:=Qad hR9;have lt_hV:=Qad hV9;have HR:=Hi (show entry L E (u::q)=some ((s,x),us)by unfold Pg.entry;rw[HKEY.out];simp[HA2.out,exact,tx,hj,HM.out]);have HB:=Hi hR9;clear hR9 hV9
      go_wp2
      go_region
      all_goals go_wp2
      have hB9:(World.drew w9).heap[w.heap.size]? =some (.cells #[.nilIface] 299 (0,0)):=HB.out;have hd9:Ext (fun _=>False) w9 (World.drew w9):=(Ext.refl _ _).drew;refine Qcl (R:=w.heap.size) _ (by kernel_rfl) rfl rfl rfl rfl (Qac (o:=0) hB9 _) ?_;exact Qdp HR.out (hX9.drew.set (p:=⟨w.heap.size,0,none⟩) (.inr (show _≤w.heap.size by omega)) _) ((hp_w9.ext hd9 (fun _ k=>k.elim)).set (o:=0) (by omega) _) ((hn9.ext hd9 (fun _ k=>k.elim)).store (o:=0) hB9 (by decide) _)
def entv:List (ByteArray×Value)→Nat→List MapEntry
 | [],_=>[]
 | (k,v)::l,i=>{key:=.string k,val:=v,born:=i}::entv l (i+1)
theorem Qev:∀(l:List (ByteArray×Value))(k:ByteArray)(v:Value)(i:Nat),entv (l++[(k,v)]) i=entv l i++[{key:=.string k,val:=v,born:=i+l.length}]
 | [],k,v,i=>rfl
 | (a,b)::l,k,v,i=>by
  rw[List.cons_append,entv,Qev l k v (i+1),entv,List.cons_append,List.length_cons,Nat.add_assoc,Nat.add_comm 1]
theorem Qdq(s:ByteArray):∀(l:List (ByteArray×Value))(i j:Nat),match l.find? (fun p=>s.toList==p.1.toList)with
  | some p=>∃j',Instr.findNow .string (.string s) (entv l i) j=some (some (j',p.2))
  | none=>Instr.findNow .string (.string s) (entv l i) j=some none
 | [],i,j=>rfl
 | (k,v)::l,i,j=>by
  have ih:=Qdq s l (i+1) (j+1);rw[List.find?_cons];cases h:(s.toList==k.toList)with
  | true=>exact⟨j,by simp[entv,Instr.findNow,Qcb,h]⟩
  | false=>simpa [entv,Instr.findNow,Qcb,h]using ih
def Qb0(w:World)(b:Nat)(l:List (ByteArray×Value)):Prop:=w.heap[b]? =some (.map (entv l 0).toArray l.length)
def setMap(w:World)(b:Nat)(es:Array MapEntry)(clock:Nat):World:={w with heap:=w.heap.setIfInBounds b (.map es clock)}
theorem Qc5{w:World}{b:Nat}{o:Obj}(h:w.heap[b]? =some o)(es:Array MapEntry)(clock:Nat):(setMap w b es clock).heap[b]? =some (.map es clock):=by
 have:=Qad h;simp[setMap,this]
theorem Qcm{w:World}{b c:Nat}{o:Obj}(h:w.heap[c]? =some o)(hn:c≠b)(es:Array MapEntry)(clock:Nat):(setMap w b es clock).heap[c]? =some o:=by
 simp only[setMap];rw[Array.getElem?_setIfInBounds_ne (fun e=>hn e.symm)];exact h
theorem Ext.setMap{S:Nat→Prop}{a b:World}(h:Ext S a b){d:Nat}(hd:S d∨a.heap.size≤d)(es:Array MapEntry)(clock:Nat):Ext S a (setMap b d es clock):=by
 refine⟨h.os,h.tape,h.output,by simpa [Pg.setMap]using h.size,fun c hc hs=>?_⟩;have hne:c≠d:=by
  rintro rfl;rcases hd with hd | hd
  ·exact hs hd
  ·omega
 simp only[Pg.setMap];rw[Array.getElem?_setIfInBounds_ne (fun e=>hne e.symm)];exact h.block c hc hs
theorem Qdh{P:Program}{t kt et:TypeId}(ht:P.underlying t=some (.map kt et))(hkt:P.underlying kt=some .string){z:Value}{w:World}(hz:(zeroValue et).run P w=.ok z w){b:Nat}{l:List (ByteArray×Value)}(hb:Qb0 w b l)(s:ByteArray) :
  (Instr.lookup t (.map (some b)) (.string s) true).run P w=.ok (match l.find? (fun p=>s.toList==p.1.toList)with
   | some p=>.tuple #[p.2,.bool true]
   | none=>.tuple #[z,.bool false]) w:=by
 have hf:=Qdq s l 0 0;unfold Qb0 at hb;cases h:l.find? (fun p=>s.toList==p.1.toList)with
 | some p =>
  rw[h]at hf;obtain⟨j,hf⟩:=hf;simp only[Instr.lookup,Instr.findKey,Sem.run_bind,run_underlying ht,run_underlying hkt,Result.andThen_ok,getObj,Sem.run,hb,mkey hkt,hf,Sem.run_pure,if_true]
 | none =>
  rw[h]at hf;simp only at hf;simp only[Instr.lookup,Instr.findKey,Sem.run_bind,run_underlying ht,run_underlying hkt,Result.andThen_ok,getObj,Sem.run,hb,mkey hkt,hf,Sem.run_pure,hz,if_true]
theorem Qew{P:Program}{t kt et:TypeId}(ht:P.underlying t=some (.map kt et))(hkt:P.underlying kt=some .string){z:Value}{w:World}(hz:(zeroValue et).run P w=.ok z w)(s:ByteArray) :
  (Instr.lookup t (.map none) (.string s) true).run P w=.ok (.tuple #[z,.bool false]) w:=by
 simp only[Instr.lookup,Instr.findKey,Sem.run_bind,run_underlying ht,run_underlying hkt,Result.andThen_ok,Sem.run_pure];rw[mkey hkt];simp only[Instr.findNow,Sem.run_pure,Result.andThen_ok,Sem.run_bind,hz,run_underlying hkt,if_true]
theorem QeV{P:Program}{t kt et:TypeId}(ht:P.underlying t=some (.map kt et))(hkt:P.underlying kt=some .string){w:World}{b:Nat}{l:List (ByteArray×Value)}(hb:Qb0 w b l)(s:ByteArray)(v:Value)(hn:l.find? (fun p=>s.toList==p.1.toList)=none) :
  (Instr.mapUpdate t (.map (some b)) (.string s) v).run P w=.ok () (setMap w b (entv (l++[(s,v)]) 0).toArray (l++[(s,v)]).length):=by
 have hf:=Qdq s l 0 0;rw[hn]at hf;simp only at hf;unfold Qb0 at hb;simp only[Instr.mapUpdate,Instr.findKey,Sem.run_bind,run_underlying ht,run_underlying hkt,Result.andThen_ok,getObj,Sem.run,hb,mkey hkt,hf,Sem.run_pure,setObj];rw[Qev,List.length_append];simp[Pg.setMap]
def SM(B bx:Nat)(w:World)(d:Nat):Prop:=d=bx∨(B≤d∧∃es c,w.heap[d]? =some (.map es c))
theorem RowAt.extG{w w':World}{lo tag:Nat}{S:Nat→Prop}{p:Option Addr}{n:Nat}{vs:Nat→Value}(h:RowAt w lo tag p n vs)(he:Ext S w w')(hs:∀d,S d→∀c fr,w.heap[d]?≠some (.cells c tag fr)):RowAt w' lo tag p n vs:=by
 rcases h with h | ⟨b,off,c,fr,h1,h2,h3,h4⟩
 ·exact .inl h
 ·exact .inr ⟨b,off,c,fr,h1,h2,he.heap (fun hS=>hs _ hS _ _ h3) h3,h4⟩
theorem Row2At.extG{w w':World}{lo tag:Nat}{S:Nat→Prop}{p:Option Addr}{n:Nat}{us vs:Nat→Value}(h:Row2At w lo tag p n us vs)(he:Ext S w w')(hs:∀d,S d→∀c fr,w.heap[d]?≠some (.cells c tag fr)):Row2At w' lo tag p n us vs:=by
 rcases h with h | ⟨b,off,c,fr,h1,h2,h3,h4⟩
 ·exact .inl h
 ·exact .inr ⟨b,off,c,fr,h1,h2,he.heap (fun hS=>hs _ hS _ _ h3) h3,h4⟩
theorem NodeIs.extG{w w':World}{lo:Nat}{S:Nat→Prop}{v:Value}{x:Ex}(h:NodeIs w lo v x)(he:Ext S w w')(hs:∀d,S d→∀T c fr,w.heap[d]? =some (.cells c T fr)→T≠136∧T≠221∧T≠316):NodeIs w' lo v x:=by
 have h1:∀d,S d→∀c fr,w.heap[d]?≠some (.cells c 136 fr):=fun d hd c fr h=>(hs d hd _ c fr h).1 rfl
 have h2:∀d,S d→∀c fr,w.heap[d]?≠some (.cells c 221 fr):=fun d hd c fr h=>(hs d hd _ c fr h).2.1 rfl
 have h3:∀d,S d→∀c fr,w.heap[d]?≠some (.cells c 316 fr):=fun d hd c fr h=>(hs d hd _ c fr h).2.2 rfl
 induction h with
 | val v=>exact .val v
 | var s=>exact .var s
 | ite x y z a b c _ _ _ i1 i2 i3=>exact .ite x y z a b c i1 i2 i3
 | bin op x y a b _ _ i1 i2=>exact .bin op x y a b i1 i2
 | una op x a _ i1=>exact .una op x a i1
 | sop op x s a _ i1=>exact .sop op x s a i1
 | isIn x y s a b _ _ i1 i2=>exact .isIn x y s a b i1 i2
 | like x a l p c _ hr i1=>exact .like x a l p c i1 (hr.extG he h3)
 | call s l p c vs hr _ ih=>exact .call s l p c vs (hr.extG he h1) ih
 | set l p c vs hr _ ih=>exact .set l p c vs (hr.extG he h1) ih
 | recd l p c vs hr _ ih=>exact .recd l p c vs (hr.extG he h2) ih
theorem Qcc{S:Nat→Prop}{w w':World}{base:Nat}{e:TypeId}{size:Nat}{v:Value}{n:Nat}{xs:List Value}(h:w.ownsRow base e size v n xs)(he:Ext S w w')(hs:∀d,S d→∀c fr,w.heap[d]?≠some (.cells c e fr)):w'.ownsRow base e size v n xs:=by
 obtain⟨h1,h2⟩:=h;refine⟨h1,?_⟩;rcases h2 with h | ⟨g,cap,cur,a,b,c,d⟩
 ·exact .inl h
 ·exact .inr ⟨g,cap,cur,a,b,he.heap (fun hS=>hs _ hS _ _ c) c,d⟩
def MsIs(w:World)(B bx:Nat)(keys:List ByteArray):Prop :=
 (keys=[]∧w.heap[bx]? =some (.cells #[.map none] 283 (0,0)))∨∃b,w.heap[bx]? =some (.cells #[.map (some b)] 283 (0,0))∧B≤b∧Qb0 w b (keys.map fun k=>(k,.agg #[]))
def MsVal(w:World)(B:Nat)(v:Value)(keys:List ByteArray):Prop :=
 (keys=[]∧v=.map none)∨∃b,v=.map (some b)∧B≤b∧Qb0 w b (keys.map fun k=>(k,.agg #[]))
theorem MsIs.val{w:World}{B bx:Nat}{keys:List ByteArray}(h:MsIs w B bx keys):∃v,w.heap[bx]? =some (.cells #[v] 283 (0,0))∧MsVal w B v keys:=by
 rcases h with⟨h1,h2⟩ | ⟨b,h1,h2,h3⟩
 ·exact⟨_,h2,.inl ⟨h1,rfl⟩⟩
 ·exact⟨_,h1,.inr ⟨b,rfl,h2,h3⟩⟩
theorem Qex(s:ByteArray)(keys:List ByteArray):((keys.map fun k=>(k,Value.agg #[])).find? (fun p=>s.toList==p.1.toList))=(keys.find? fun k=>s.toList==k.toList).map fun k=>(k,.agg #[]):=by
 rw[List.find?_map];rfl
theorem QcT{w:World}{B:Nat}{v:Value}{keys:List ByteArray}(h:MsVal w B v keys)(s:ByteArray) :
  Calls Tryz.prog 135 #[.agg #[v],.string s] w fun e w'=>e=.returned (.bool (keys.any fun k=>s.toList==k.toList))∧Below w.heap.size w w':=by
 have ht:Tryz.prog.underlying 281=some (.map 9 272):=by kernel_rfl
 have hkt:Tryz.prog.underlying 9=some .string:=by kernel_rfl
 have hz:∀w,(zeroValue 272).run Tryz.prog w=.ok (.agg #[]) w:=fun w=>by kernel_rfl
 rcases h with⟨rfl,rfl⟩ | ⟨b,rfl,hB,hm⟩
 ·have hl:=fun w=>Qew (w:=w) ht hkt (hz w) s
  clear ht hkt hz;go_enter Tryz.func135,Tryz.ntmps135;go_wp2;go_ret;exact⟨rfl,(Qab w _).alloc (by simp) _⟩
 ·have hm1:Qb0 (w.alloc (.cells #[.map (some b)] 283)) b (keys.map fun k=>(k,.agg #[])):=Qaf hm _
  have hl:=Qdh ht hkt (hz _) hm1 s;rw[Qex]at hl;clear ht hkt hz hm hm1;cases hf:keys.find? (fun k=>s.toList==k.toList)with
  | none =>
   rw[hf]at hl;simp only[Option.map_none]at hl;have hany:(keys.any fun k=>s.toList==k.toList)=false:=by simpa using hf
   have HA:=Hi hany;clear hf hany;go_enter Tryz.func135,Tryz.ntmps135;go_wp2;go_ret;rw[HA.out];exact⟨rfl,(Qab w _).alloc (by simp) _⟩
  | some k =>
   rw[hf]at hl;simp only[Option.map_some]at hl;have hany:(keys.any fun k=>s.toList==k.toList)=true:=by
    rw[List.any_eq_true];exact⟨k,List.mem_of_find?_eq_some hf,List.find?_some (p:=fun k:ByteArray=>s.toList==k.toList) hf⟩
   have HA:=Hi hany;clear hf hany;go_enter Tryz.func135,Tryz.ntmps135;go_wp2;go_ret;rw[HA.out];exact⟨rfl,(Qab w _).alloc (by simp) _⟩
@[go_sem] theorem eql281_s(b:Nat)(w:World):(binOp .eql 281 (.map (some b)) (.map none)).run Tryz.prog w=.ok (.bool false) w:=by kernel_rfl
@[go_sem] theorem eql281_n(w:World):(binOp .eql 281 (.map none) (.map none)).run Tryz.prog w=.ok (.bool true) w:=by kernel_rfl
def AddP(B bx:Nat)(keys:List ByteArray)(w:World)(e:Ending)(w':World):Prop :=
 e=.returned (.bool true)∧MsIs w' B bx keys∧Ext (SM B bx w) w w'
theorem add_some{w:World}{B bx b:Nat}{keys:List ByteArray}(hx:w.heap[bx]? =some (.cells #[.map (some b)] 283 (0,0)))(hB:B≤b)(hm:Qb0 w b (keys.map fun k=>(k,.agg #[])))(s:ByteArray)(hn:(keys.any fun k=>s.toList==k.toList)=false) :
  Calls Tryz.prog 136 #[.pointer (some ⟨bx,0,none⟩),.string s] w (AddP B bx (keys++[s]) w):=by
 have ht:Tryz.prog.underlying 281=some (.map 9 272):=by kernel_rfl
 have hkt:Tryz.prog.underlying 9=some .string:=by kernel_rfl
 have hz:∀w,(zeroValue 272).run Tryz.prog w=.ok (.agg #[]) w:=fun w=>by kernel_rfl
 have hlb:=Qad hm;have hlx:=Qad hx;have hf:(keys.map fun k=>(k,Value.agg #[])).find? (fun p=>s.toList==p.1.toList)=none:=by
  rw[Qex];have:keys.find? (fun k=>s.toList==k.toList)=none:=by simpa using hn
  rw[this];rfl
 have hl:=Qdh ht hkt (hz _) hm s;rw[hf]at hl;simp only at hl;have c0:w.cell? ⟨bx,0,none⟩=some (.map (some b)):=Qaa hx rfl;have HM:=Hi hm;have HF:=Hi hf;have HX:=Hi hx;clear hm hf hz hn hx;go_enter Tryz.func136,Tryz.ntmps136
 go_upto_region 4 with(fail)
 obtain⟨w1,hw⟩:∃w1,w.alloc (.cells #[] 272)=w1:=⟨_,rfl⟩
 rw[hw];have hb1:Below w.heap.size w w1:=by rw[←hw];exact Qab _ _
 have hm1:Qb0 w1 b (keys.map fun k=>(k,.agg #[])):=(hb1.block _ hlb).trans HM.out;have c1:=QbR hb1 hlx c0;have hx1:w1.heap[bx]? =some (.cells #[.map (some b)] 283 (0,0)):=(hb1.block _ hlx).trans HX.out;have hins:∀v,(Instr.mapUpdate 281 (.map (some b)) (.string s) v).run Tryz.prog w1.drew=.ok () (setMap w1.drew b (entv ((keys.map fun k=>(k,Value.agg #[]))++[(s,v)]) 0).toArray ((keys.map fun k=>(k,Value.agg #[]))++[(s,v)]).length):=fun v=>QeV ht hkt (w:=w1.drew) hm1 s v HF.out
 clear hw hl ht hkt c0;have HX1:=Hi hx1;have HM1:=Hi hm1;clear hx1 hm1;go_wp2
 go_region
 all_goals go_wp2
 all_goals go_ret
 have hne:bx≠b:=by
  rintro rfl;have h1:=HX1.out;have h2:=HM1.out;unfold Qb0 at h2;rw[h1]at h2;cases h2
 have hx1:w1.drew.heap[bx]? =some (.cells #[.map (some b)] 283 (0,0)):=HX1.out;have hm1:w1.drew.heap[b]? =some _:=HM1.out;refine⟨rfl,.inr ⟨b,Qcm hx1 hne _ _,hB,?_⟩,?_⟩
 ·unfold Qb0
  rw[Qc5 hm1,List.map_append];simp
 ·exact(Ext.below hb1).drew.setMap (.inl (.inr ⟨hB,_,_,HM.out⟩)) _ _
theorem add_nil{w:World}{B bx:Nat}(hx:w.heap[bx]? =some (.cells #[.map none] 283 (0,0)))(hB:B≤w.heap.size)(s:ByteArray) :
  Calls Tryz.prog 136 #[.pointer (some ⟨bx,0,none⟩),.string s] w (AddP B bx [s] w):=by
 have ht:Tryz.prog.underlying 281=some (.map 9 272):=by kernel_rfl
 have hkt:Tryz.prog.underlying 9=some .string:=by kernel_rfl
 have hz:∀w,(zeroValue 272).run Tryz.prog w=.ok (.agg #[]) w:=fun w=>by kernel_rfl
 have hmk:∀w:World,(Instr.makeMap 281 none).run Tryz.prog w=.ok (.map (some w.heap.size)) (w.alloc (.map #[] 0)):=fun w=>by kernel_rfl
 have hlx:=Qad hx;have c0:w.cell? ⟨bx,0,none⟩=some (.map none):=Qaa hx rfl;have f0:∀o,(w.alloc o).frozen? ⟨bx,0,none⟩=false:=fun o=>Qae (Qaf hx o) 0
 have HX:=Hi hx;clear hx;go_enter Tryz.func136,Tryz.ntmps136
 go_upto_region 3 with(fail)
 obtain⟨w0,hw⟩:∃w0,(w.setCell ⟨bx,0,none⟩ (.map (some w.heap.size))).alloc (.map #[] 0)=w0:=⟨_,rfl⟩
 rw[hw];have hx0:w0.heap[bx]? =some (.cells #[.map (some w.heap.size)] 283 (0,0)):=by rw[←hw];exact Qaf (Qac (o:=0) HX.out _) _
 have hm0:Qb0 w0 w.heap.size []:=by
  rw[←hw];exact Qah (by simp) _
 have hX0:Ext (SM B bx w) w w0:=by rw[←hw];exact((Ext.refl _ w).set (p:=⟨bx,0,none⟩) (.inl (.inl rfl)) _).alloc _
 have hs0:w.heap.size+1≤w0.heap.size:=by rw[←hw];simp
 clear hw c0 f0 hmk;have hl:=Qdh ht hkt (hz _) hm0 s;simp only[List.find?_nil]at hl;have c0:w0.cell? ⟨bx,0,none⟩=some (.map (some w.heap.size)):=Qaa hx0 rfl;have hlb:=Qad hm0;have hlx0:=Qad hx0;have HM:=Hi hm0;have HX0:=Hi hx0;clear hm0 hx0 hz
 go_upto_region 4 with(fail)
 obtain⟨w1,hw⟩:∃w1,w0.alloc (.cells #[] 272)=w1:=⟨_,rfl⟩
 rw[hw];have hb1:Below w0.heap.size w0 w1:=by rw[←hw];exact Qab _ _
 have hm1:Qb0 w1 w.heap.size []:=(hb1.block _ hlb).trans HM.out;have c1:=QbR hb1 hlx0 c0;have hx1:w1.heap[bx]? =some (.cells #[.map (some w.heap.size)] 283 (0,0)):=(hb1.block _ hlx0).trans HX0.out;have hins:∀v,(Instr.mapUpdate 281 (.map (some w.heap.size)) (.string s) v).run Tryz.prog w1.drew=.ok () (setMap w1.drew w.heap.size (entv ([]++[(s,v)]) 0).toArray ([]++[(s,v)]).length):=fun v=>QeV ht hkt (w:=w1.drew) hm1 s v rfl
 clear hw hl ht hkt c0;have HX1:=Hi hx1;have HM1:=Hi hm1;clear hx1 hm1;go_wp2
 go_region
 all_goals go_wp2
 all_goals go_ret
 have hx1:w1.drew.heap[bx]? =some (.cells #[.map (some w.heap.size)] 283 (0,0)):=HX1.out;have hm1:w1.drew.heap[w.heap.size]? =some _:=HM1.out;refine⟨rfl,.inr ⟨w.heap.size,Qcm hx1 (by omega) _ _,hB,?_⟩,?_⟩
 ·unfold Qb0
  rw[Qc5 hm1];simp
 ·exact(hX0.trans' (Ext.below (S:=fun _=>False) hb1) (fun _ k=>k.elim)).drew.setMap (.inr (Nat.le_refl _)) _ _
theorem add_c{w:World}{B bx:Nat}{keys:List ByteArray}(h:MsIs w B bx keys)(hB:B≤w.heap.size)(s:ByteArray)(hn:(keys.any fun k=>s.toList==k.toList)=false) :
  Calls Tryz.prog 136 #[.pointer (some ⟨bx,0,none⟩),.string s] w (AddP B bx (keys++[s]) w):=by
 rcases h with⟨rfl,h⟩ | ⟨b,h1,h2,h3⟩
 ·exact add_nil h hB s
 ·exact add_some h1 h2 h3 s hn
end Go.Proofs.Pg
