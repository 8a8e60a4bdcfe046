/- FnPolicyCut, part 7. -/
import Derived.Test.YtmhjkkkhdlnngaaGreatDoorP05
import Derived.Test.YtmhjkkkhdlnngaaGreatDoorP06
import Derived.Deep.Cut
set_option linter.all false
set_option maxRecDepth 100000
set_option maxHeartbeats 0
namespace Go.Proofs.Pg
open Go.RowKit Go.Proofs.Tryz
attribute [local go_sem] Oper.semAt_some
def QfY(bp base:Nat)(w:World)(r:Option (Ex×Toks))(e:Ending)(w':World):Prop :=
 Ext (·=bp) w w'∧match r with
 | none=>∃T,∃v:EVal base w' T,e=.returned (.tuple #[.agg #[.nilIface],.iface T v.1])
 | some (x,us)=>∃T v,e=.returned (.tuple #[.agg #[.iface T v],.nilIface])∧PS w' bp base us∧NodeIs w' base (.iface T v) x
def FnC(f:FuncId)(m:Toks→Option (Ex×Toks))(bp base N:Nat):Prop :=
 ∀w ts,PS w bp base ts→Wf ts→ts.length≤N→base≤w.heap.size→Calls prog f #[.pointer (some ⟨bp,0,none⟩)] w (QfY bp base w (m ts))
theorem Qai{W:World}{fn:Func}{R:Nat}{v err:Value}{Q:Ending→World→Prop}(a:Act)(s s2:Nat)(hf:fn.results=#[.cell s 299,.tmp s2])(ha:a.tmps.getD s undef=.pointer (some ⟨R,0,none⟩))(he:a.tmps.getD s2 undef=err)(had:a.defers=[])
  (r:W.heap[R]? =some (.cells #[v] 299 (0,0)))(h:Q (.returned (.tuple #[.agg #[v],err])) W):bodyPost prog fn Q Exit.ret a W:=by
 refine bodyPost_ret (QaH (a:=s) (t:=299) hf _ ⟨R,0,none⟩ ha _ _ (QcP _ _ _ _ (by kernel_rfl) (by kernel_rfl) (Qaa (o:=0) r rfl))) had ?_;rw[he];exact h
theorem PS.ne{w:World}{bp base:Nat}{ts:Toks}(h:PS w bp base ts):ts≠[]:=by
 obtain⟨_,_,_,_,_,_,_,_,_,_,f,_⟩:=h.ex;exact f
theorem NodeIs.store{w:World}{lo d o:Nat}{v:Value}{x:Ex}{c:Array Value}{T:TypeId}{fr:Nat×Nat}(h:NodeIs w lo v x)(hd:w.heap[d]? =some (.cells c T fr))(hT:(T≠136∧T≠221∧T≠316))(u:Value):NodeIs (w.setCell ⟨d,o,none⟩ u) lo v x :=
 h.ext (S:=(·=d)) ((Ext.refl (·=d) w).set (p:=⟨d,o,none⟩) (.inl rfl) u) (by rintro e rfl;exact .inr (.inr ⟨c,T,fr,hd,hT⟩))
theorem NodeIs.keep{w w':World}{lo:Nat}{S:Nat→Prop}{v:Value}{x:Ex}(h:NodeIs w lo v x)(he:Ext S w w')(hs:∀d,S d→d<lo):NodeIs w' lo v x:=h.ext he (fun d hd=>.inl (hs d hd))
theorem NodeIs.later{w w':World}{lo:Nat}{v:Value}{x:Ex}(h:NodeIs w lo v x)(hb:Below w.heap.size w w'):NodeIs w' lo v x:=h.ext (S:=fun _=>False) (.below hb) (fun d hd=>hd.elim)
def left(w:World)(bp:Nat):Nat:=match w.cell? ⟨bp,0,none⟩,w.cell? ⟨bp,1,none⟩with
 | some (.slice _ n _),some (.int _ k)=>n-k.toNat
 | _,_=>0
theorem PS.left{w:World}{bp base:Nat}{ts:Toks}(h:PS w bp base ts):left w bp=ts.length:=by
 obtain⟨bt,off,n,cap,k,a,b,hbt,d,hn,f,g⟩:=h.ex;unfold Pg.left;rw[Qaa (o:=0) b rfl,Qaa (o:=1) b rfl];show n-(k:Int).toNat=_;omega
theorem Qa0{w:World}{bp base:Nat}{t:Tok}{ts:List Tok}{l:List UInt8}(hp:PS w bp base (t::ts))(h:(t.tx.toList==l)=true) :
  Calls prog 70 #[.pointer (some ⟨bp,0,none⟩),.string ⟨l.toArray⟩] w fun e w'=>e=.returned .nilIface∧PS w' bp base (adv (t::ts))∧Ext (·=bp) w w':=Qg3 hp _ (by rw[ByteArray.toList_mk l];exact h)
theorem Qa9{w:World}{bp base:Nat}{t:Tok}{ts:List Tok}{l:List UInt8}(hp:PS w bp base (t::ts))(h:(t.tx.toList==l)=false) :
  Calls prog 70 #[.pointer (some ⟨bp,0,none⟩),.string ⟨l.toArray⟩] w fun e w'=>∃T,∃x:EVal base w' T,e=.returned (.iface T x.1)∧PS w' bp base (adv (t::ts))∧Ext (·=bp) w w':=exact_no hp _ (by rw[ByteArray.toList_mk l];exact h)
theorem Qak{bp base:Nat}{w w':World}{r:Option (Ex×Toks)}{T:TypeId}{w9:World}{v:EVal base w9 T}(h:r=none)(he:Ext (·=bp) w w')(hk:∀d,OkB w9 d→OkB w' d:=by intro _ h;repeat (first | exact h | apply Qiq | apply Qip)):QfY bp base w r (.returned (.tuple #[.agg #[.nilIface],.iface T v.1])) w':=by
 subst h;exact⟨he,T,v.to hk,rfl⟩
theorem Qal{bp base:Nat}{w w':World}{r:Option (Ex×Toks)}{x:Ex}{us:Toks}{T:TypeId}{v:Value}(h:r=some (x,us))(he:Ext (·=bp) w w')(hp:PS w' bp base us)(hn:NodeIs w' base (.iface T v) x):QfY bp base w r (.returned (.tuple #[.agg #[.iface T v],.nilIface])) w':=by
 subst h;exact⟨he,T,v,rfl,hp,hn⟩
def LpRel(loop:Nat→Ex→Toks→Option (Ex×Toks))(bp base N R lb:Nat)(w:World)(Rm:Option (Ex×Toks))(wr:World):Prop :=
 ∃g y vs T v,loop g y vs=Rm∧vs.length<g∧Wf vs∧vs.length≤N∧PS wr bp base vs∧NodeIs wr base (.iface T v) y∧wr.heap[lb]? =some (.cells #[.iface T v] 299 (0,0))∧wr.heap[R]? =some (.cells #[.nilIface] 299 (0,0))∧Ext (·=bp) w wr
theorem or_w{L:Lex}{E:Toks→Option (Ex×Toks)}{bp base N:Nat}(hE:Sh E)(hA:FnC 194 (and L E) bp base N):FnC 175 (or L E) bp base N:=by
 intro w ts hp hwf hN hbs;have hbb:=hp.hbp;have HA:=Hi hA;clear hA;have HE:=Hi hE;clear hE;go_enter func175,ntmps175
 go_wp2_with fail
 refine(HA.out _ ts (hp.below (Qab _ _)) hwf hN (by simp;omega)).mono ?_;rintro e w1⟨hX,hr⟩;have hs1:w.heap.size+1≤w1.heap.size:=by have:=hX.size;simpa using this
 have hR1:w1.heap[w.heap.size]? =some (.cells #[.nilIface] 299 (0,0)):=hX.heap (by omega) (Xa w _);have hX0:Ext (·=bp) w w1:=((Ext.refl _ w).alloc _).trans hX;clear hX;cases hm:and L E ts with
 | none =>
  rw[hm]at hr;obtain⟨T,v,rfl⟩:=hr;have HM:=Hi hm;clear hm;have c0:w1.cell? ⟨w.heap.size,0,none⟩=some .nilIface:=Qaa hR1 rfl;have f0:∀o,(w1.alloc o).frozen? ⟨w.heap.size,0,none⟩=false:=fun o=>Qae (Qaf hR1 o) 0
  have hlt:w.heap.size<w1.heap.size:=by omega
  have H1:=Hi hR1;clear hR1;go_wp2;exact Qai (R:=w.heap.size) _ 2 3 (by kernel_rfl) rfl rfl rfl (Qaf (Qac (o:=0) H1.out _) _) (Qak (by unfold Pg.or;rw[HM.out]) ((hX0.set (.inr (Xb _)) _).alloc _))
 | some p =>
  obtain⟨x,us⟩:=p;rw[hm]at hr;obtain⟨T,v,rfl,hp1,hn1⟩:=hr;have hsh:=QdJ HE.out _ _ _ hwf hm;have hfin:or L E ts=orL L E (us.length+1) x us:=by unfold Pg.or;rw[hm]
  have HF:=Hi hfin;clear hm hfin
  go_wp2_with fail
  go_loopw [18] (fun u wr=>LpRel (orL L E) bp base N w.heap.size w1.heap.size w (orL L E (us.length+1) x us) wr) (fun _ wr=>left wr bp)
  case atStart =>
   exact⟨us.length+1,x,us,T,v,rfl,by omega,hsh.1.wf hwf,by omega,hp1.below (Qab _ _),hn1.later (Qab _ _),Xa _ _,Qaf hR1 _,hX0.alloc _⟩
  case round =>
   clear hR1 hp1 hn1 hsh hX0;obtain⟨wo,rfl⟩:∃wo:World,wo=wr:=⟨_,rfl⟩
   obtain⟨g,y,vs,Ty,vy,hg,hgl,hvw,hvN,hpv,hny,hlb,hRr,hXr⟩:=hrel;have HG:=Hi hg;clear hg;cases g with
   | zero=>omega
   | succ g =>
   obtain⟨t,r,rfl⟩:∃t r,vs=t::r:=by cases vs with | nil=>exact absurd rfl hpv.ne | cons t r=>exact⟨t,r,rfl⟩
   go_wp2_with fail
   refine(Qa7 hpv).mono ?_;rintro e w2⟨rfl,hb2⟩;have hp2:=hpv.below hb2;have hn2:=hny.later hb2;have hlb2:=Bk hb2 hlb;have hR2:=Bk hb2 hRr;have hX2:=hXr.trans (.below hb2);have hlf:=hpv.left;have hs2:=hb2.size;clear hb2 hpv hny hlb hRr hXr;cases ht:(t.tx.toList==[124,124])with
   | false =>
    have hlt1:=Qad hlb2;have hlt2:=Qad hR2;have c1:w2.cell? ⟨w1.heap.size,0,none⟩=some (.iface Ty vy):=Qaa hlb2 rfl;have c2:w2.cell? ⟨w.heap.size,0,none⟩=some .nilIface:=Qaa hR2 rfl;have f2:w2.frozen? ⟨w.heap.size,0,none⟩=false:=Qae hR2 0;have H2:=Hi hR2;clear hR2 hlb2 hlf;go_wp2;have hres:orL L E (us.length+1) x us=some (y,t::r):=by
     rw[←HG.out,orL];simp[tx,ht]
    exact Qai (R:=w.heap.size) _ 2 3 (by kernel_rfl) rfl rfl rfl (Qac (o:=0) H2.out _) (Qal (by rw[HF.out,hres]) (hX2.set (.inr (Xb _)) _) (hp2.set (by omega) _) (hn2.store H2.out (by decide) _))
   | true =>
    go_wp2_with fail
    refine(Qaz hp2).mono ?_;rintro e w3⟨rfl,hp3,hX3⟩;have hn3:=hn2.keep hX3 (fun d hd=>by omega);have hlb3:=hX3.heap (by omega) hlb2;have hR3:=hX3.heap (by omega) hR2;have hX3':=hX2.trans hX3;have hs3:=hX3.size;have hav:(adv (t::r)).length<(t::r).length:=Qax hvw (s:=[124,124]) ht (by decide);clear hX3 hp2 hn2 hlb2 hR2 hX2
    go_wp2_with fail
    refine(HA.out _ _ hp3 hvw.adv (by omega) (by have:=hX3'.size;omega)).mono ?_;rintro e w4⟨hX4,hr4⟩;have hn4:=hn3.keep hX4 (fun d hd=>by omega);have hlb4:=hX4.heap (by omega) hlb3;have hR4:=hX4.heap (by omega) hR3;have hX4':=hX3'.trans hX4;have hs4:=hX4.size;clear hX4 hp3 hn3 hlb3 hR3 hX3';cases hm2:and L E (adv (t::r))with
    | none =>
     rw[hm2]at hr4;obtain⟨T4,v4,rfl⟩:=hr4;have c0:w4.cell? ⟨w.heap.size,0,none⟩=some .nilIface:=Qaa hR4 rfl;have f0:∀o,(w4.alloc o).frozen? ⟨w.heap.size,0,none⟩=false:=fun o=>Qae (Qaf hR4 o) 0
     have hlt:=Qad hR4;have hres:orL L E (us.length+1) x us=none:=by
      rw[←HG.out,orL,if_pos (by simpa [tx]using ht),hm2]
     have H1:=Hi hR4;clear hR4 hlf hm2;have HR:=Hi hres;clear hres;go_wp2;exact Qai (R:=w.heap.size) _ 2 3 (by kernel_rfl) rfl rfl rfl (Qaf (Qac (o:=0) H1.out _) _) (Qak (by rw[HF.out,HR.out]) ((hX4'.set (.inr (Xb _)) _).alloc _))
    | some p =>
     obtain⟨z,zs⟩:=p;rw[hm2]at hr4;obtain⟨T4,v4,rfl,hp4,hz4⟩:=hr4;have hsh:=QdJ HE.out _ _ _ hvw.adv hm2;have hres:orL L E (us.length+1) x us=orL L E g (.bin 260 y z) zs:=by
      rw[←HG.out,orL,if_pos (by simpa [tx]using ht),hm2]
     have HR:=Hi hres;clear hres hm2;have c1:w4.cell? ⟨w1.heap.size,0,none⟩=some (.iface Ty vy):=Qaa hlb4 rfl;have hlt:=Qad hlb4;have HL4:=Hi hlb4;have HR4:=Hi hR4;have HLF:=Hi hlf;clear hlb4 hR4 hlf
     go_wp2_with fail
     refine(n195_c _ _ _ _ _).mono ?_;rintro e w5⟨rfl,hb5⟩;have hb5':Below w4.heap.size w4 w5:=(Qab w4 _).trans (hb5.mono (by simp));have hlb5:=(hb5'.block _ hlt).trans HL4.out;have hR5:=(hb5'.block _ (Qad HR4.out)).trans HR4.out;have c5:w5.cell? ⟨w1.heap.size,0,none⟩=some (.iface Ty vy):=Qaa hlb5 rfl;have f5:w5.frozen? ⟨w1.heap.size,0,none⟩=false:=Qae hlb5 0;have H5:=Hi hlb5;have G5:=Hi hR5;clear hlb5 hR5 c1 hb5
     go_wp2;go_roundw
     case rel =>
      refine⟨g,_,zs,260,_,HR.out.symm,?_,hsh.1.wf hvw.adv,?_,(hp4.below hb5').set (by omega) _,?_,Qac (o:=0) H5.out _,Qag G5.out (by omega) _,(hX4'.trans (.below hb5')).set (p:=⟨w1.heap.size,0,none⟩) (.inr (show w.heap.size≤w1.heap.size by omega)) _⟩
      ·have:=hsh.2;omega
      ·have:=hsh.2;omega
      ·exact .bin 260 _ _ _ _ ((hn4.later hb5').store H5.out (by decide) _) ((hz4.later hb5').store H5.out (by decide) _)
     case measure =>
      rw[((hp4.below hb5').set (by omega) _).left,HLF.out];have:=hsh.2;omega
theorem and_w{L:Lex}{E:Toks→Option (Ex×Toks)}{bp base N:Nat}(hE:Sh E)(hA:FnC 206 (relation L E) bp base N):FnC 194 (and L E) bp base N:=by
 intro w ts hp hwf hN hbs;have hbb:=hp.hbp;have HA:=Hi hA;clear hA;have HE:=Hi hE;clear hE;go_enter func194,ntmps194
 go_wp2_with fail
 refine(HA.out _ ts (hp.below (Qab _ _)) hwf hN (by simp;omega)).mono ?_;rintro e w1⟨hX,hr⟩;have hs1:w.heap.size+1≤w1.heap.size:=by have:=hX.size;simpa using this
 have hR1:w1.heap[w.heap.size]? =some (.cells #[.nilIface] 299 (0,0)):=hX.heap (by omega) (Xa w _);have hX0:Ext (·=bp) w w1:=((Ext.refl _ w).alloc _).trans hX;clear hX;cases hm:relation L E ts with
 | none =>
  rw[hm]at hr;obtain⟨T,v,rfl⟩:=hr;have HM:=Hi hm;clear hm;have c0:w1.cell? ⟨w.heap.size,0,none⟩=some .nilIface:=Qaa hR1 rfl;have f0:∀o,(w1.alloc o).frozen? ⟨w.heap.size,0,none⟩=false:=fun o=>Qae (Qaf hR1 o) 0
  have hlt:w.heap.size<w1.heap.size:=by omega
  have H1:=Hi hR1;clear hR1;go_wp2;exact Qai (R:=w.heap.size) _ 2 3 (by kernel_rfl) rfl rfl rfl (Qaf (Qac (o:=0) H1.out _) _) (Qak (by unfold Pg.and;rw[HM.out]) ((hX0.set (.inr (Xb _)) _).alloc _))
 | some p =>
  obtain⟨x,us⟩:=p;rw[hm]at hr;obtain⟨T,v,rfl,hp1,hn1⟩:=hr;have hsh:=Qbu HE.out _ _ _ hwf hm;have hfin:and L E ts=andL L E (us.length+1) x us:=by unfold Pg.and;rw[hm]
  have HF:=Hi hfin;clear hm hfin
  go_wp2_with fail
  go_loopw [18] (fun u wr=>LpRel (andL L E) bp base N w.heap.size w1.heap.size w (andL L E (us.length+1) x us) wr) (fun _ wr=>left wr bp)
  case atStart =>
   exact⟨us.length+1,x,us,T,v,rfl,by omega,hsh.1.wf hwf,by omega,hp1.below (Qab _ _),hn1.later (Qab _ _),Xa _ _,Qaf hR1 _,hX0.alloc _⟩
  case round =>
   clear hR1 hp1 hn1 hsh hX0;obtain⟨wo,rfl⟩:∃wo:World,wo=wr:=⟨_,rfl⟩
   obtain⟨g,y,vs,Ty,vy,hg,hgl,hvw,hvN,hpv,hny,hlb,hRr,hXr⟩:=hrel;have HG:=Hi hg;clear hg;cases g with
   | zero=>omega
   | succ g =>
   obtain⟨t,r,rfl⟩:∃t r,vs=t::r:=by cases vs with | nil=>exact absurd rfl hpv.ne | cons t r=>exact⟨t,r,rfl⟩
   go_wp2_with fail
   refine(Qa7 hpv).mono ?_;rintro e w2⟨rfl,hb2⟩;have hp2:=hpv.below hb2;have hn2:=hny.later hb2;have hlb2:=Bk hb2 hlb;have hR2:=Bk hb2 hRr;have hX2:=hXr.trans (.below hb2);have hlf:=hpv.left;have hs2:=hb2.size;clear hb2 hpv hny hlb hRr hXr;cases ht:(t.tx.toList==[38,38])with
   | false =>
    have hlt1:=Qad hlb2;have hlt2:=Qad hR2;have c1:w2.cell? ⟨w1.heap.size,0,none⟩=some (.iface Ty vy):=Qaa hlb2 rfl;have c2:w2.cell? ⟨w.heap.size,0,none⟩=some .nilIface:=Qaa hR2 rfl;have f2:w2.frozen? ⟨w.heap.size,0,none⟩=false:=Qae hR2 0;have H2:=Hi hR2;clear hR2 hlb2 hlf;go_wp2;have hres:andL L E (us.length+1) x us=some (y,t::r):=by
     rw[←HG.out,andL];simp[tx,ht]
    exact Qai (R:=w.heap.size) _ 2 3 (by kernel_rfl) rfl rfl rfl (Qac (o:=0) H2.out _) (Qal (by rw[HF.out,hres]) (hX2.set (.inr (Xb _)) _) (hp2.set (by omega) _) (hn2.store H2.out (by decide) _))
   | true =>
    go_wp2_with fail
    refine(Qaz hp2).mono ?_;rintro e w3⟨rfl,hp3,hX3⟩;have hn3:=hn2.keep hX3 (fun d hd=>by omega);have hlb3:=hX3.heap (by omega) hlb2;have hR3:=hX3.heap (by omega) hR2;have hX3':=hX2.trans hX3;have hs3:=hX3.size;have hav:(adv (t::r)).length<(t::r).length:=Qax hvw (s:=[38,38]) ht (by decide);clear hX3 hp2 hn2 hlb2 hR2 hX2
    go_wp2_with fail
    refine(HA.out _ _ hp3 hvw.adv (by omega) (by have:=hX3'.size;omega)).mono ?_;rintro e w4⟨hX4,hr4⟩;have hn4:=hn3.keep hX4 (fun d hd=>by omega);have hlb4:=hX4.heap (by omega) hlb3;have hR4:=hX4.heap (by omega) hR3;have hX4':=hX3'.trans hX4;have hs4:=hX4.size;clear hX4 hp3 hn3 hlb3 hR3 hX3';cases hm2:relation L E (adv (t::r))with
    | none =>
     rw[hm2]at hr4;obtain⟨T4,v4,rfl⟩:=hr4;have c0:w4.cell? ⟨w.heap.size,0,none⟩=some .nilIface:=Qaa hR4 rfl;have f0:∀o,(w4.alloc o).frozen? ⟨w.heap.size,0,none⟩=false:=fun o=>Qae (Qaf hR4 o) 0
     have hlt:=Qad hR4;have hres:andL L E (us.length+1) x us=none:=by
      rw[←HG.out,andL,if_pos (by simpa [tx]using ht),hm2]
     have H1:=Hi hR4;clear hR4 hlf hm2;have HR:=Hi hres;clear hres;go_wp2;exact Qai (R:=w.heap.size) _ 2 3 (by kernel_rfl) rfl rfl rfl (Qaf (Qac (o:=0) H1.out _) _) (Qak (by rw[HF.out,HR.out]) ((hX4'.set (.inr (Xb _)) _).alloc _))
    | some p =>
     obtain⟨z,zs⟩:=p;rw[hm2]at hr4;obtain⟨T4,v4,rfl,hp4,hz4⟩:=hr4;have hsh:=Qbu HE.out _ _ _ hvw.adv hm2;have hres:andL L E (us.length+1) x us=andL L E g (.bin 262 y z) zs:=by
      rw[←HG.out,andL,if_pos (by simpa [tx]using ht),hm2]
     have HR:=Hi hres;clear hres hm2;have c1:w4.cell? ⟨w1.heap.size,0,none⟩=some (.iface Ty vy):=Qaa hlb4 rfl;have hlt:=Qad hlb4;have HL4:=Hi hlb4;have HR4:=Hi hR4;have HLF:=Hi hlf;clear hlb4 hR4 hlf
     go_wp2_with fail
     refine(n207_c _ _ _ _ _).mono ?_;rintro e w5⟨rfl,hb5⟩;have hb5':Below w4.heap.size w4 w5:=(Qab w4 _).trans (hb5.mono (by simp));have hlb5:=(hb5'.block _ hlt).trans HL4.out;have hR5:=(hb5'.block _ (Qad HR4.out)).trans HR4.out;have c5:w5.cell? ⟨w1.heap.size,0,none⟩=some (.iface Ty vy):=Qaa hlb5 rfl;have f5:w5.frozen? ⟨w1.heap.size,0,none⟩=false:=Qae hlb5 0;have H5:=Hi hlb5;have G5:=Hi hR5;clear hlb5 hR5 c1 hb5
     go_wp2;go_roundw
     case rel =>
      refine⟨g,_,zs,262,_,HR.out.symm,?_,hsh.1.wf hvw.adv,?_,(hp4.below hb5').set (by omega) _,?_,Qac (o:=0) H5.out _,Qag G5.out (by omega) _,(hX4'.trans (.below hb5')).set (p:=⟨w1.heap.size,0,none⟩) (.inr (show w.heap.size≤w1.heap.size by omega)) _⟩
      ·have:=hsh.2;omega
      ·have:=hsh.2;omega
      ·exact .bin 262 _ _ _ _ ((hn4.later hb5').store H5.out (by decide) _) ((hz4.later hb5').store H5.out (by decide) _)
     case measure =>
      rw[((hp4.below hb5').set (by omega) _).left,HLF.out];have:=hsh.2;omega
theorem mult_w{L:Lex}{E:Toks→Option (Ex×Toks)}{bp base N:Nat}(hE:Sh E)(hA:FnC 240 (unary L E) bp base N):FnC 230 (mult L E) bp base N:=by
 intro w ts hp hwf hN hbs;have hbb:=hp.hbp;have HA:=Hi hA;clear hA;have HE:=Hi hE;clear hE;go_enter func230,ntmps230
 go_wp2_with fail
 refine(HA.out _ ts (hp.below (Qab _ _)) hwf hN (by simp;omega)).mono ?_;rintro e w1⟨hX,hr⟩;have hs1:w.heap.size+1≤w1.heap.size:=by have:=hX.size;simpa using this
 have hR1:w1.heap[w.heap.size]? =some (.cells #[.nilIface] 299 (0,0)):=hX.heap (by omega) (Xa w _);have hX0:Ext (·=bp) w w1:=((Ext.refl _ w).alloc _).trans hX;clear hX;cases hm:unary L E ts with
 | none =>
  rw[hm]at hr;obtain⟨T,v,rfl⟩:=hr;have HM:=Hi hm;clear hm;have c0:w1.cell? ⟨w.heap.size,0,none⟩=some .nilIface:=Qaa hR1 rfl;have f0:∀o,(w1.alloc o).frozen? ⟨w.heap.size,0,none⟩=false:=fun o=>Qae (Qaf hR1 o) 0
  have hlt:w.heap.size<w1.heap.size:=by omega
  have H1:=Hi hR1;clear hR1;go_wp2;exact Qai (R:=w.heap.size) _ 2 3 (by kernel_rfl) rfl rfl rfl (Qaf (Qac (o:=0) H1.out _) _) (Qak (by unfold Pg.mult;rw[HM.out]) ((hX0.set (.inr (Xb _)) _).alloc _))
 | some p =>
  obtain⟨x,us⟩:=p;rw[hm]at hr;obtain⟨T,v,rfl,hp1,hn1⟩:=hr;have hsh:=Qcw HE.out _ _ _ hwf hm;have hfin:mult L E ts=Qcj L E (us.length+1) x us:=by unfold Pg.mult;rw[hm]
  have HF:=Hi hfin;clear hm hfin
  go_wp2_with fail
  go_loopw [18] (fun u wr=>LpRel (Qcj L E) bp base N w.heap.size w1.heap.size w (Qcj L E (us.length+1) x us) wr) (fun _ wr=>left wr bp)
  case atStart =>
   exact⟨us.length+1,x,us,T,v,rfl,by omega,hsh.1.wf hwf,by omega,hp1.below (Qab _ _),hn1.later (Qab _ _),Xa _ _,Qaf hR1 _,hX0.alloc _⟩
  case round =>
   clear hR1 hp1 hn1 hsh hX0;obtain⟨wo,rfl⟩:∃wo:World,wo=wr:=⟨_,rfl⟩
   obtain⟨g,y,vs,Ty,vy,hg,hgl,hvw,hvN,hpv,hny,hlb,hRr,hXr⟩:=hrel;have HG:=Hi hg;clear hg;cases g with
   | zero=>omega
   | succ g =>
   obtain⟨t,r,rfl⟩:∃t r,vs=t::r:=by cases vs with | nil=>exact absurd rfl hpv.ne | cons t r=>exact⟨t,r,rfl⟩
   go_wp2_with fail
   refine(Qa7 hpv).mono ?_;rintro e w2⟨rfl,hb2⟩;have hp2:=hpv.below hb2;have hn2:=hny.later hb2;have hlb2:=Bk hb2 hlb;have hR2:=Bk hb2 hRr;have hX2:=hXr.trans (.below hb2);have hlf:=hpv.left;have hs2:=hb2.size;clear hb2 hpv hny hlb hRr hXr;cases ht:(t.tx.toList==[42])with
   | false =>
    have hlt1:=Qad hlb2;have hlt2:=Qad hR2;have c1:w2.cell? ⟨w1.heap.size,0,none⟩=some (.iface Ty vy):=Qaa hlb2 rfl;have c2:w2.cell? ⟨w.heap.size,0,none⟩=some .nilIface:=Qaa hR2 rfl;have f2:w2.frozen? ⟨w.heap.size,0,none⟩=false:=Qae hR2 0;have H2:=Hi hR2;clear hR2 hlb2 hlf;go_wp2;have hres:Qcj L E (us.length+1) x us=some (y,t::r):=by
     rw[←HG.out,Qcj];simp[tx,ht]
    exact Qai (R:=w.heap.size) _ 2 3 (by kernel_rfl) rfl rfl rfl (Qac (o:=0) H2.out _) (Qal (by rw[HF.out,hres]) (hX2.set (.inr (Xb _)) _) (hp2.set (by omega) _) (hn2.store H2.out (by decide) _))
   | true =>
    go_wp2_with fail
    refine(Qaz hp2).mono ?_;rintro e w3⟨rfl,hp3,hX3⟩;have hn3:=hn2.keep hX3 (fun d hd=>by omega);have hlb3:=hX3.heap (by omega) hlb2;have hR3:=hX3.heap (by omega) hR2;have hX3':=hX2.trans hX3;have hs3:=hX3.size;have hav:(adv (t::r)).length<(t::r).length:=Qax hvw (s:=[42]) ht (by decide);clear hX3 hp2 hn2 hlb2 hR2 hX2
    go_wp2_with fail
    refine(HA.out _ _ hp3 hvw.adv (by omega) (by have:=hX3'.size;omega)).mono ?_;rintro e w4⟨hX4,hr4⟩;have hn4:=hn3.keep hX4 (fun d hd=>by omega);have hlb4:=hX4.heap (by omega) hlb3;have hR4:=hX4.heap (by omega) hR3;have hX4':=hX3'.trans hX4;have hs4:=hX4.size;clear hX4 hp3 hn3 hlb3 hR3 hX3';cases hm2:unary L E (adv (t::r))with
    | none =>
     rw[hm2]at hr4;obtain⟨T4,v4,rfl⟩:=hr4;have c0:w4.cell? ⟨w.heap.size,0,none⟩=some .nilIface:=Qaa hR4 rfl;have f0:∀o,(w4.alloc o).frozen? ⟨w.heap.size,0,none⟩=false:=fun o=>Qae (Qaf hR4 o) 0
     have hlt:=Qad hR4;have hres:Qcj L E (us.length+1) x us=none:=by
      rw[←HG.out,Qcj,if_pos (by simpa [tx]using ht),hm2]
     have H1:=Hi hR4;clear hR4 hlf hm2;have HR:=Hi hres;clear hres;go_wp2;exact Qai (R:=w.heap.size) _ 2 3 (by kernel_rfl) rfl rfl rfl (Qaf (Qac (o:=0) H1.out _) _) (Qak (by rw[HF.out,HR.out]) ((hX4'.set (.inr (Xb _)) _).alloc _))
    | some p =>
     obtain⟨z,zs⟩:=p;rw[hm2]at hr4;obtain⟨T4,v4,rfl,hp4,hz4⟩:=hr4;have hsh:=Qcw HE.out _ _ _ hvw.adv hm2;have hres:Qcj L E (us.length+1) x us=Qcj L E g (.bin 277 y z) zs:=by
      rw[←HG.out,Qcj,if_pos (by simpa [tx]using ht),hm2]
     have HR:=Hi hres;clear hres hm2;have c1:w4.cell? ⟨w1.heap.size,0,none⟩=some (.iface Ty vy):=Qaa hlb4 rfl;have hlt:=Qad hlb4;have HL4:=Hi hlb4;have HR4:=Hi hR4;have HLF:=Hi hlf;clear hlb4 hR4 hlf
     go_wp2_with fail
     refine(n241_c _ _ _ _ _).mono ?_;rintro e w5⟨rfl,hb5⟩;have hb5':Below w4.heap.size w4 w5:=(Qab w4 _).trans (hb5.mono (by simp));have hlb5:=(hb5'.block _ hlt).trans HL4.out;have hR5:=(hb5'.block _ (Qad HR4.out)).trans HR4.out;have c5:w5.cell? ⟨w1.heap.size,0,none⟩=some (.iface Ty vy):=Qaa hlb5 rfl;have f5:w5.frozen? ⟨w1.heap.size,0,none⟩=false:=Qae hlb5 0;have H5:=Hi hlb5;have G5:=Hi hR5;clear hlb5 hR5 c1 hb5
     go_wp2;go_roundw
     case rel =>
      refine⟨g,_,zs,277,_,HR.out.symm,?_,hsh.1.wf hvw.adv,?_,(hp4.below hb5').set (by omega) _,?_,Qac (o:=0) H5.out _,Qag G5.out (by omega) _,(hX4'.trans (.below hb5')).set (p:=⟨w1.heap.size,0,none⟩) (.inr (show w.heap.size≤w1.heap.size by omega)) _⟩
      ·have:=hsh.2;omega
      ·have:=hsh.2;omega
      ·exact .bin 277 _ _ _ _ ((hn4.later hb5').store H5.out (by decide) _) ((hz4.later hb5').store H5.out (by decide) _)
     case measure =>
      rw[((hp4.below hb5').set (by omega) _).left,HLF.out];have:=hsh.2;omega
@[go_sem] theorem eql379_f(k:FuncId)(w:World):(binOp .eql 379 (.func (.func k) #[] #[]) .nilFunc).run prog w=.ok (.bool false) w:=by kernel_rfl
@[go_sem] theorem eql379_n(w:World):(binOp .eql 379 .nilFunc .nilFunc).run prog w=.ok (.bool true) w:=by kernel_rfl
theorem add_w{L:Lex}{E:Toks→Option (Ex×Toks)}{bp base N:Nat}(hE:Sh E)(hA:FnC 230 (mult L E) bp base N):FnC 217 (add L E) bp base N:=by
 intro w ts hp hwf hN hbs;have hbb:=hp.hbp;have HA:=Hi hA;clear hA;have HE:=Hi hE;clear hE;go_enter func217,ntmps217
 go_wp2_with fail
 refine(HA.out _ ts (hp.below (Qab _ _)) hwf hN (by simp;omega)).mono ?_;rintro e w1⟨hX,hr⟩;have hs1:w.heap.size+1≤w1.heap.size:=by have:=hX.size;simpa using this
 have hR1:w1.heap[w.heap.size]? =some (.cells #[.nilIface] 299 (0,0)):=hX.heap (by omega) (Xa w _);have hX0:Ext (·=bp) w w1:=((Ext.refl _ w).alloc _).trans hX;clear hX;cases hm:mult L E ts with
 | none =>
  rw[hm]at hr;obtain⟨T,v,rfl⟩:=hr;have HM:=Hi hm;clear hm;have c0:w1.cell? ⟨w.heap.size,0,none⟩=some .nilIface:=Qaa hR1 rfl;have f0:∀o,(w1.alloc o).frozen? ⟨w.heap.size,0,none⟩=false:=fun o=>Qae (Qaf hR1 o) 0
  have hlt:w.heap.size<w1.heap.size:=by omega
  have H1:=Hi hR1;clear hR1;go_wp2;exact Qai (R:=w.heap.size) _ 2 3 (by kernel_rfl) rfl rfl rfl (Qaf (Qac (o:=0) H1.out _) _) (Qak (by unfold Pg.add;rw[HM.out]) ((hX0.set (.inr (Xb _)) _).alloc _))
 | some p =>
  obtain⟨x,us⟩:=p;rw[hm]at hr;obtain⟨T,v,rfl,hp1,hn1⟩:=hr;have hsh:=Qca HE.out _ _ _ hwf hm;have hfin:add L E ts=addL L E (us.length+1) x us:=by unfold Pg.add;rw[hm]
  have HF:=Hi hfin;clear hm hfin
  go_wp2_with fail
  go_loopw [20] (fun u wr=>LpRel (addL L E) bp base N w.heap.size w1.heap.size w (addL L E (us.length+1) x us) wr) (fun _ wr=>left wr bp)
  case atStart =>
   exact⟨us.length+1,x,us,T,v,rfl,by omega,hsh.1.wf hwf,by omega,hp1.below (Qab _ _),hn1.later (Qab _ _),Xa _ _,Qaf hR1 _,hX0.alloc _⟩
  case round =>
   clear hR1 hp1 hn1 hsh hX0;obtain⟨wo,rfl⟩:∃wo:World,wo=wr:=⟨_,rfl⟩
   obtain⟨g,y,vs,Ty,vy,hg,hgl,hvw,hvN,hpv,hny,hlb,hRr,hXr⟩:=hrel;have HG:=Hi hg;clear hg;cases g with
   | zero=>omega
   | succ g =>
   obtain⟨t,r,rfl⟩:∃t r,vs=t::r:=by cases vs with | nil=>exact absurd rfl hpv.ne | cons t r=>exact⟨t,r,rfl⟩
   go_wp2_with fail
   refine(Qa7 hpv).mono ?_;rintro e w2'⟨rfl,hb2'⟩;have hb2:Below wo.heap.size wo (w2'.alloc (.cells t.row 122)):=hb2'.trans ((Qab w2' _).mono hb2'.size);have htok:(w2'.alloc (.cells t.row 122)).heap[w2'.heap.size]? =some (.cells t.row 122 (0,0)):=Xa _ _
   go_upto_region 5 with(fail)
   obtain⟨w2,hw2⟩:∃w2,w2'.alloc (.cells t.row 122)=w2:=⟨_,rfl⟩
   rw[hw2];replace hb2:Below wo.heap.size wo w2:=hw2▸hb2;replace htok:w2.heap[w2'.heap.size]? =some (.cells t.row 122 (0,0)):=hw2▸htok;have ctok:w2.cell? ⟨w2'.heap.size,5,none⟩=some (.string t.tx):=Qaa htok rfl;clear hw2 htok hb2';have hp2:=hpv.below hb2;have hn2:=hny.later hb2;have hlb2:=Bk hb2 hlb;have hR2:=Bk hb2 hRr;have hX2:=hXr.trans (.below hb2);have hlf:=hpv.left;have hs2:=hb2.size;clear hb2 hpv hny hlb hRr hXr
   cases ht:(t.tx.toList==[43])with
   | false =>
    cases hu:(t.tx.toList==[45])with
    | false =>
     have hlt1:=Qad hlb2;have hlt2:=Qad hR2;have c1:w2.cell? ⟨w1.heap.size,0,none⟩=some (.iface Ty vy):=Qaa hlb2 rfl;have c2:w2.cell? ⟨w.heap.size,0,none⟩=some .nilIface:=Qaa hR2 rfl;have f2:w2.frozen? ⟨w.heap.size,0,none⟩=false:=Qae hR2 0;have H2:=Hi hR2;clear hR2 hlb2 hlf;go_wp2;have hres:addL L E (us.length+1) x us=some (y,t::r):=by
      rw[←HG.out,addL];simp[tx,ht,hu]
     exact Qai (R:=w.heap.size) _ 2 3 (by kernel_rfl) rfl rfl rfl (Qac (o:=0) H2.out _) (Qal (HF.out.trans hres) (hX2.set (.inr (Xb _)) _) (hp2.set (by omega) _) (hn2.store H2.out (by decide) _))
    | true =>
     go_wp2_with fail
     refine(Qaz hp2).mono ?_;rintro e w3⟨rfl,hp3,hX3⟩;have hn3:=hn2.keep hX3 (fun d hd=>by omega);have hlb3:=hX3.heap (by omega) hlb2;have hR3:=hX3.heap (by omega) hR2;have hX3':=hX2.trans hX3;have hs3:=hX3.size;have hav:(adv (t::r)).length<(t::r).length:=Qax hvw (s:=[45]) hu (by decide);clear hX3 hp2 hn2 hlb2 hR2 hX2
     go_wp2_with fail
     refine(HA.out _ _ hp3 hvw.adv (by omega) (by have:=hX3'.size;omega)).mono ?_;rintro e w4⟨hX4,hr4⟩;have hn4:=hn3.keep hX4 (fun d hd=>by omega);have hlb4:=hX4.heap (by omega) hlb3;have hR4:=hX4.heap (by omega) hR3;have hX4':=hX3'.trans hX4;have hs4:=hX4.size;clear hX4 hp3 hn3 hlb3 hR3 hX3';cases hm2:mult L E (adv (t::r))with
     | none =>
      rw[hm2]at hr4;obtain⟨T4,v4,rfl⟩:=hr4;have c0:w4.cell? ⟨w.heap.size,0,none⟩=some .nilIface:=Qaa hR4 rfl;have f0:∀o,(w4.alloc o).frozen? ⟨w.heap.size,0,none⟩=false:=fun o=>Qae (Qaf hR4 o) 0
      have hlt:=Qad hR4;have hres:addL L E (us.length+1) x us=none:=by
       rw[←HG.out,addL];simp[tx,ht,hu,hm2]
      have H1:=Hi hR4;clear hR4 hlf hm2;have HR:=Hi hres;clear hres;go_wp2;exact Qai (R:=w.heap.size) _ 2 3 (by kernel_rfl) rfl rfl rfl (Qaf (Qac (o:=0) H1.out _) _) (Qak (by rw[HF.out,HR.out]) ((hX4'.set (.inr (Xb _)) _).alloc _))
     | some p =>
      obtain⟨z,zs⟩:=p;rw[hm2]at hr4;obtain⟨T4,v4,rfl,hp4,hz4⟩:=hr4;have hsh:=Qca HE.out _ _ _ hvw.adv hm2;have hres:addL L E (us.length+1) x us=addL L E g (.bin 275 y z) zs:=by
       rw[←HG.out,addL];simp[tx,ht,hu,hm2]
      have HR:=Hi hres;clear hres hm2;have c1:w4.cell? ⟨w1.heap.size,0,none⟩=some (.iface Ty vy):=Qaa hlb4 rfl;have hlt:=Qad hlb4;have HL4:=Hi hlb4;have HR4:=Hi hR4;have HLF:=Hi hlf;clear hlb4 hR4 hlf
      go_wp2_with fail
      refine(n232_c _ _ _ _ _).mono ?_;rintro e w5⟨rfl,hb5⟩;have hb5':Below w4.heap.size w4 w5:=(Qab w4 _).trans (hb5.mono (by simp));have hlb5:=(hb5'.block _ hlt).trans HL4.out;have hR5:=(hb5'.block _ (Qad HR4.out)).trans HR4.out;have c5:w5.cell? ⟨w1.heap.size,0,none⟩=some (.iface Ty vy):=Qaa hlb5 rfl;have f5:w5.frozen? ⟨w1.heap.size,0,none⟩=false:=Qae hlb5 0;have H5:=Hi hlb5;have G5:=Hi hR5;clear hlb5 hR5 c1 hb5
      go_wp2;go_roundw
      case rel =>
       refine⟨g,_,zs,275,_,HR.out.symm,?_,hsh.1.wf hvw.adv,?_,(hp4.below hb5').set (by omega) _,?_,Qac (o:=0) H5.out _,Qag G5.out (by omega) _,(hX4'.trans (.below hb5')).set (p:=⟨w1.heap.size,0,none⟩) (.inr (show w.heap.size≤w1.heap.size by omega)) _⟩
       ·have:=hsh.2;omega
       ·have:=hsh.2;omega
       ·exact .bin 275 _ _ _ _ ((hn4.later hb5').store H5.out (by decide) _) ((hz4.later hb5').store H5.out (by decide) _)
      case measure =>
       rw[((hp4.below hb5').set (by omega) _).left,HLF.out];have:=hsh.2;omega
   | true =>
    go_wp2_with fail
    refine(Qaz hp2).mono ?_;rintro e w3⟨rfl,hp3,hX3⟩;have hn3:=hn2.keep hX3 (fun d hd=>by omega);have hlb3:=hX3.heap (by omega) hlb2;have hR3:=hX3.heap (by omega) hR2;have hX3':=hX2.trans hX3;have hs3:=hX3.size;have hav:(adv (t::r)).length<(t::r).length:=Qax hvw (s:=[43]) ht (by decide);clear hX3 hp2 hn2 hlb2 hR2 hX2
    go_wp2_with fail
    refine(HA.out _ _ hp3 hvw.adv (by omega) (by have:=hX3'.size;omega)).mono ?_;rintro e w4⟨hX4,hr4⟩;have hn4:=hn3.keep hX4 (fun d hd=>by omega);have hlb4:=hX4.heap (by omega) hlb3;have hR4:=hX4.heap (by omega) hR3;have hX4':=hX3'.trans hX4;have hs4:=hX4.size;clear hX4 hp3 hn3 hlb3 hR3 hX3';cases hm2:mult L E (adv (t::r))with
    | none =>
     rw[hm2]at hr4;obtain⟨T4,v4,rfl⟩:=hr4;have c0:w4.cell? ⟨w.heap.size,0,none⟩=some .nilIface:=Qaa hR4 rfl;have f0:∀o,(w4.alloc o).frozen? ⟨w.heap.size,0,none⟩=false:=fun o=>Qae (Qaf hR4 o) 0
     have hlt:=Qad hR4;have hres:addL L E (us.length+1) x us=none:=by
      rw[←HG.out,addL];simp[tx,ht,hm2]
     have H1:=Hi hR4;clear hR4 hlf hm2;have HR:=Hi hres;clear hres;go_wp2;exact Qai (R:=w.heap.size) _ 2 3 (by kernel_rfl) rfl rfl rfl (Qaf (Qac (o:=0) H1.out _) _) (Qak (by rw[HF.out,HR.out]) ((hX4'.set (.inr (Xb _)) _).alloc _))
    | some p =>
     obtain⟨z,zs⟩:=p;rw[hm2]at hr4;obtain⟨T4,v4,rfl,hp4,hz4⟩:=hr4;have hsh:=Qca HE.out _ _ _ hvw.adv hm2;have hres:addL L E (us.length+1) x us=addL L E g (.bin 276 y z) zs:=by
      rw[←HG.out,addL];simp[tx,ht,hm2]
     have HR:=Hi hres;clear hres hm2;have c1:w4.cell? ⟨w1.heap.size,0,none⟩=some (.iface Ty vy):=Qaa hlb4 rfl;have hlt:=Qad hlb4;have HL4:=Hi hlb4;have HR4:=Hi hR4;have HLF:=Hi hlf;clear hlb4 hR4 hlf
     go_wp2_with fail
     refine(n231_c _ _ _ _ _).mono ?_;rintro e w5⟨rfl,hb5⟩;have hb5':Below w4.heap.size w4 w5:=(Qab w4 _).trans (hb5.mono (by simp));have hlb5:=(hb5'.block _ hlt).trans HL4.out;have hR5:=(hb5'.block _ (Qad HR4.out)).trans HR4.out;have c5:w5.cell? ⟨w1.heap.size,0,none⟩=some (.iface Ty vy):=Qaa hlb5 rfl;have f5:w5.frozen? ⟨w1.heap.size,0,none⟩=false:=Qae hlb5 0;have H5:=Hi hlb5;have G5:=Hi hR5;clear hlb5 hR5 c1 hb5
     go_wp2;go_roundw
     case rel =>
      refine⟨g,_,zs,276,_,HR.out.symm,?_,hsh.1.wf hvw.adv,?_,(hp4.below hb5').set (by omega) _,?_,Qac (o:=0) H5.out _,Qag G5.out (by omega) _,(hX4'.trans (.below hb5')).set (p:=⟨w1.heap.size,0,none⟩) (.inr (show w.heap.size≤w1.heap.size by omega)) _⟩
      ·have:=hsh.2;omega
      ·have:=hsh.2;omega
      ·exact .bin 276 _ _ _ _ ((hn4.later hb5').store H5.out (by decide) _) ((hz4.later hb5').store H5.out (by decide) _)
     case measure =>
      rw[((hp4.below hb5').set (by omega) _).left,HLF.out];have:=hsh.2;omega
theorem expr_w{L:Lex}{E:Toks→Option (Ex×Toks)}{bp base N:Nat}(hE:Sh E)(hO:FnC 175 (or L E) bp base (N+1))(hC:FnC 149 E bp base N):FnC 149 (QbH L E) bp base (N+1):=by
 intro w ts hp hwf hN hbs;have hbb:=hp.hbp;have HO:=Hi hO;have HC:=Hi hC;have HE:=Hi hE;clear hO hC hE;obtain⟨t,r,rfl⟩:∃t r,ts=t::r:=by cases ts with | nil=>exact absurd rfl hp.ne | cons t r=>exact⟨t,r,rfl⟩
 go_enter func149,ntmps149
 go_wp2_with fail
 refine(Qa7 (hp.below (Qab _ _))).mono ?_;rintro e w1'⟨rfl,hb1'⟩
 go_upto_region 2 with(fail)
 obtain⟨w1,hw1⟩:∃w1,w1'.alloc (.cells t.row 122)=w1:=⟨_,rfl⟩
 rw[hw1];have hb0:Below w.heap.size w w1':=(Qab w _).trans (hb1'.mono (by simp));have hb1:Below w.heap.size w w1:=by rw[←hw1];exact hb0.trans ((Qab w1' _).mono hb0.size)
 have htok:w1.heap[w1'.heap.size]? =some (.cells t.row 122 (0,0)):=by rw[←hw1];exact Xa _ _
 have hR1:w1.heap[w.heap.size]? =some (.cells #[.nilIface] 299 (0,0)):=by
  rw[←hw1];exact Qaf ((hb1'.block _ (by simp)).trans (Xa w _)) _
 have ctok:w1.cell? ⟨w1'.heap.size,5,none⟩=some (.string t.tx):=Qaa htok rfl;have hp1:=hp.below hb1;have hX1:Ext (·=bp) w w1:=.below hb1;have hs1:=hb1.size;clear hw1 hb0 hb1' hb1 htok;cases ht:(t.tx.toList==[105,102])with
 | false =>
  have hres:QbH L E (t::r)=or L E (t::r):=by unfold QbH;simp[tx,ht]
  have HR:=Hi hres;clear hres
  go_wp2_with fail
  refine(HO.out _ _ hp1 hwf hN (by omega)).mono ?_;rintro e w2⟨hX,hr⟩;have hR2:=hX.heap (by omega) hR1;have hX2:=hX1.trans hX;have c0:w2.cell? ⟨w.heap.size,0,none⟩=some .nilIface:=Qaa hR2 rfl;have f0:w2.frozen? ⟨w.heap.size,0,none⟩=false:=Qae hR2 0;have H2:=Hi hR2;clear hX hR2 hR1 hX1 hp1;cases hm:or L E (t::r)with
  | none =>
   rw[hm]at hr;obtain⟨T,v,rfl⟩:=hr;have HM:=Hi hm;clear hm;go_wp2;exact Qai (R:=w.heap.size) _ 2 3 (by kernel_rfl) rfl rfl rfl (Qac (o:=0) H2.out _) (Qak (HR.out.trans HM.out) (hX2.set (.inr (Xb _)) _))
  | some p =>
   obtain⟨x,us⟩:=p;rw[hm]at hr;obtain⟨T,v,rfl,hp2,hn2⟩:=hr;have HM:=Hi hm;clear hm;go_wp2;exact Qai (R:=w.heap.size) _ 2 3 (by kernel_rfl) rfl rfl rfl (Qac (o:=0) H2.out _) (Qal (HR.out.trans HM.out) (hX2.set (.inr (Xb _)) _) (hp2.set (by omega) _) (hn2.store H2.out (by decide) _))
 | true =>
  have hav:(adv (t::r)).length<(t::r).length:=Qax hwf (s:=[105,102]) ht (by decide)
  go_wp2_with fail
  refine(Qaz hp1).mono ?_;rintro e w2⟨rfl,hp2,hX⟩;have hR2:=hX.heap (by omega) hR1;have hX2:=hX1.trans hX;have hs2:=hX.size;clear hX hR1 hX1 hp1 ctok
  go_wp2_with fail
  refine(HC.out _ (adv (t::r)) hp2 hwf.adv (by omega) (by have:=hX2.size;omega)).mono ?_;rintro e w3⟨hX,hr⟩;have hs3:=hX.size;have hX3:=hX2.trans hX;have hR3:=hX.heap (by omega) hR2;clear hR2;clear hX hX2 hp2;cases hx:E (adv (t::r))with
  | none =>
   rw[hx]at hr;obtain⟨Tx,vx,rfl⟩:=hr;have c0:w3.cell? ⟨w.heap.size,0,none⟩=some .nilIface:=Qaa hR3 rfl;have f0:∀o,(w3.alloc o).frozen? ⟨w.heap.size,0,none⟩=false:=fun o=>Qae (Qaf hR3 o) 0
   have hlt:=Qad hR3;have hres:QbH L E (t::r)=none:=by unfold QbH;simp only[tx,ht,if_true,hx]
   have HR:=Hi hres;clear hres;have H1:=Hi hR3;clear hR3;go_wp2;exact Qai (R:=w.heap.size) _ 2 3 (by kernel_rfl) rfl rfl rfl (Qaf (Qac (o:=0) H1.out _) _) (Qak HR.out ((hX3.set (.inr (Xb _)) _).alloc _))
  | some px =>
   obtain⟨x,xs⟩:=px;rw[hx]at hr;obtain⟨Tx,vx,rfl,hp3,hnx3⟩:=hr;have hqx:=HE.out _ _ _ hwf.adv hx;have wfx:=hqx.1.wf hwf.adv;have HQx:=Hi hx;clear hx
   go_upto_region 5 with(fail)
   obtain⟨w3b,hw⟩:∃w3b,w3.alloc (.cells #[.iface Tx vx] 299)=w3b:=⟨_,rfl⟩
   rw[hw];have hb:Below w3.heap.size w3 w3b:=by rw[←hw];exact Qab _ _
   have hBx3b:w3b.heap[w3.heap.size]? =some (.cells #[.iface Tx vx] 299 (0,0)):=by rw[←hw];exact Xa _ _
   have hp3b:=hp3.below hb;have hX3b:=hX3.trans (.below hb);have hs3b:=hb.size;have hnx3b:=hnx3.later hb;have hR3b:=Bk hb hR3;clear hnx3 hR3;clear hw hb hp3 hX3;obtain⟨ux,usx,rfl⟩:∃u us,xs=u::us:=by cases xs with | nil=>exact absurd rfl hp3b.ne | cons u us=>exact⟨u,us,rfl⟩
   cases hex:(ux.tx.toList==[116,104,101,110])with
   | false =>
    go_wp2_with fail
    refine(Qa9 hp3b hex).mono ?_;rintro e w9⟨T9,v9,rfl,hp9,hX⟩;have hR9:=hX.heap (by omega) hR3b;have hX9:=hX3b.trans hX;clear hX;have c0:w9.cell? ⟨w.heap.size,0,none⟩=some .nilIface:=Qaa hR9 rfl;have f0:w9.frozen? ⟨w.heap.size,0,none⟩=false:=Qae hR9 0;have hlt:=Qad hR9;have hres:QbH L E (t::r)=none:=by unfold QbH;simp only[tx,ht,if_true,HQx.out,exact,hex,Xf,if_false]
    have HR:=Hi hres;clear hres;have H1:=Hi hR9;clear hR9;go_wp2;exact Qai (R:=w.heap.size) _ 2 3 (by kernel_rfl) rfl rfl rfl (Qac (o:=0) H1.out _) (Qak HR.out (hX9.set (.inr (Xb _)) _))
   | true =>
    go_wp2_with fail
    refine(Qa0 hp3b hex).mono ?_;rintro e w4⟨rfl,hp4,hX⟩;have hs4:=hX.size;have hX4:=hX3b.trans hX;have hnx4:=hnx3b.keep hX (fun d hd=>by omega);have hR4:=hX.heap (by omega) hR3b;have hBx4:=hX.heap (by omega) hBx3b;clear hnx3b hR3b hBx3b;clear hX hp3b hX3b;have hax:=(Qam wfx).len;have HTx:=Hi hex;clear hex;have hlx:=hqx.2
    go_wp2_with fail
    refine(HC.out _ (adv (ux::usx)) hp4 wfx.adv (by omega) (by have:=hX4.size;omega)).mono ?_;rintro e w5⟨hX,hr⟩;have hs5:=hX.size;have hX5:=hX4.trans hX;have hnx5:=hnx4.keep hX (fun d hd=>by omega);have hR5:=hX.heap (by omega) hR4;have hBx5:=hX.heap (by omega) hBx4;clear hnx4 hR4 hBx4;clear hX hX4 hp4;cases hy:E (adv (ux::usx))with
    | none =>
     rw[hy]at hr;obtain⟨Ty,vy,rfl⟩:=hr;have c0:w5.cell? ⟨w.heap.size,0,none⟩=some .nilIface:=Qaa hR5 rfl;have f0:∀o,(w5.alloc o).frozen? ⟨w.heap.size,0,none⟩=false:=fun o=>Qae (Qaf hR5 o) 0
     have hlt:=Qad hR5;have hres:QbH L E (t::r)=none:=by unfold QbH;simp only[tx,ht,if_true,HQx.out,exact,HTx.out,hy]
     have HR:=Hi hres;clear hres;have H1:=Hi hR5;clear hR5;go_wp2;exact Qai (R:=w.heap.size) _ 2 3 (by kernel_rfl) rfl rfl rfl (Qaf (Qac (o:=0) H1.out _) _) (Qak HR.out ((hX5.set (.inr (Xb _)) _).alloc _))
    | some py =>
     obtain⟨y,ys⟩:=py;rw[hy]at hr;obtain⟨Ty,vy,rfl,hp5,hny5⟩:=hr;have hqy:=HE.out _ _ _ wfx.adv hy;have wfy:=hqy.1.wf wfx.adv;have HQy:=Hi hy;clear hy
     go_upto_region 11 with(fail)
     obtain⟨w5b,hw⟩:∃w5b,w5.alloc (.cells #[.iface Ty vy] 299)=w5b:=⟨_,rfl⟩
     rw[hw];have hb:Below w5.heap.size w5 w5b:=by rw[←hw];exact Qab _ _
     have hBy5b:w5b.heap[w5.heap.size]? =some (.cells #[.iface Ty vy] 299 (0,0)):=by rw[←hw];exact Xa _ _
     have hp5b:=hp5.below hb;have hX5b:=hX5.trans (.below hb);have hs5b:=hb.size;have hnx5b:=hnx5.later hb;have hny5b:=hny5.later hb;have hR5b:=Bk hb hR5;have hBx5b:=Bk hb hBx5;clear hnx5 hny5 hR5 hBx5;clear hw hb hp5 hX5;obtain⟨uy,usy,rfl⟩:∃u us,ys=u::us:=by cases ys with | nil=>exact absurd rfl hp5b.ne | cons u us=>exact⟨u,us,rfl⟩
     cases hey:(uy.tx.toList==[101,108,115,101])with
     | false =>
      go_wp2_with fail
      refine(Qa9 hp5b hey).mono ?_;rintro e w9⟨T9,v9,rfl,hp9,hX⟩;have hR9:=hX.heap (by omega) hR5b;have hX9:=hX5b.trans hX;clear hX;have c0:w9.cell? ⟨w.heap.size,0,none⟩=some .nilIface:=Qaa hR9 rfl;have f0:w9.frozen? ⟨w.heap.size,0,none⟩=false:=Qae hR9 0;have hlt:=Qad hR9;have hres:QbH L E (t::r)=none:=by unfold QbH;simp only[tx,ht,if_true,HQx.out,exact,HTx.out,HQy.out,exact,hey,Xf,if_false]
      have HR:=Hi hres;clear hres;have H1:=Hi hR9;clear hR9;go_wp2;exact Qai (R:=w.heap.size) _ 2 3 (by kernel_rfl) rfl rfl rfl (Qac (o:=0) H1.out _) (Qak HR.out (hX9.set (.inr (Xb _)) _))
     | true =>
      go_wp2_with fail
      refine(Qa0 hp5b hey).mono ?_;rintro e w6⟨rfl,hp6,hX⟩;have hs6:=hX.size;have hX6:=hX5b.trans hX;have hnx6:=hnx5b.keep hX (fun d hd=>by omega);have hny6:=hny5b.keep hX (fun d hd=>by omega);have hR6:=hX.heap (by omega) hR5b;have hBx6:=hX.heap (by omega) hBx5b;have hBy6:=hX.heap (by omega) hBy5b;clear hnx5b hny5b hR5b hBx5b hBy5b;clear hX hp5b hX5b;have hay:=(Qam wfy).len;have HTy:=Hi hey;clear hey
      have hly:=hqy.2
      go_wp2_with fail
      refine(HC.out _ (adv (uy::usy)) hp6 wfy.adv (by omega) (by have:=hX6.size;omega)).mono ?_;rintro e w7⟨hX,hr⟩;have hs7:=hX.size;have hX7:=hX6.trans hX;have hnx7:=hnx6.keep hX (fun d hd=>by omega);have hny7:=hny6.keep hX (fun d hd=>by omega);have hR7:=hX.heap (by omega) hR6;have hBx7:=hX.heap (by omega) hBx6;have hBy7:=hX.heap (by omega) hBy6;clear hnx6 hny6 hR6 hBx6 hBy6;clear hX hX6 hp6;cases hz:E (adv (uy::usy))with
      | none =>
       rw[hz]at hr;obtain⟨Tz,vz,rfl⟩:=hr;have c0:w7.cell? ⟨w.heap.size,0,none⟩=some .nilIface:=Qaa hR7 rfl;have f0:∀o,(w7.alloc o).frozen? ⟨w.heap.size,0,none⟩=false:=fun o=>Qae (Qaf hR7 o) 0
       have hlt:=Qad hR7;have hres:QbH L E (t::r)=none:=by unfold QbH;simp only[tx,ht,if_true,HQx.out,exact,HTx.out,HQy.out,exact,HTy.out,hz]
       have HR:=Hi hres;clear hres;have H1:=Hi hR7;clear hR7;go_wp2;exact Qai (R:=w.heap.size) _ 2 3 (by kernel_rfl) rfl rfl rfl (Qaf (Qac (o:=0) H1.out _) _) (Qak HR.out ((hX7.set (.inr (Xb _)) _).alloc _))
      | some pz =>
       obtain⟨z,zs⟩:=pz;rw[hz]at hr;obtain⟨Tz,vz,rfl,hp7,hnz7⟩:=hr;have hqz:=HE.out _ _ _ wfy.adv hz;have wfz:=hqz.1.wf wfy.adv;have HQz:=Hi hz;clear hz
       go_upto_region 17 with(fail)
       obtain⟨w7b,hw⟩:∃w7b,w7.alloc (.cells #[.iface Tz vz] 299)=w7b:=⟨_,rfl⟩
       rw[hw];have hb:Below w7.heap.size w7 w7b:=by rw[←hw];exact Qab _ _
       have hBz7b:w7b.heap[w7.heap.size]? =some (.cells #[.iface Tz vz] 299 (0,0)):=by rw[←hw];exact Xa _ _
       have hp7b:=hp7.below hb;have hX7b:=hX7.trans (.below hb);have hs7b:=hb.size;have hnx7b:=hnx7.later hb;have hny7b:=hny7.later hb;have hnz7b:=hnz7.later hb;have hR7b:=Bk hb hR7;have hBx7b:=Bk hb hBx7;have hBy7b:=Bk hb hBy7;clear hnx7 hny7 hnz7 hR7 hBx7 hBy7;clear hw hb hp7 hX7;have cx:w7b.cell? ⟨w3.heap.size,0,none⟩=some (.iface Tx vx):=Qaa hBx7b rfl;have cy:w7b.cell? ⟨w5.heap.size,0,none⟩=some (.iface Ty vy):=Qaa hBy7b rfl
       have cz:w7b.cell? ⟨w7.heap.size,0,none⟩=some (.iface Tz vz):=Qaa hBz7b rfl;have hltR:=Qad hR7b;have HR7:=Hi hR7b;clear hR7b hBx7b hBy7b hBz7b
       go_wp2_with fail
       refine(n174_c _ _ _ _ _ _ _).mono ?_;rintro e w8⟨rfl,hb8⟩;have hR8:=(hb8.block _ hltR).trans HR7.out;have c0:w8.cell? ⟨w.heap.size,0,none⟩=some .nilIface:=Qaa hR8 rfl;have f0:w8.frozen? ⟨w.heap.size,0,none⟩=false:=Qae hR8 0;have hres:QbH L E (t::r)=some (.ite x y z,zs):=by unfold QbH;simp only[tx,ht,if_true,HQx.out,exact,HTx.out,HQy.out,exact,HTy.out,HQz.out]
       have HR:=Hi hres;clear hres;have H8:=Hi hR8;clear hR8 cx cy cz;go_wp2;exact Qai (R:=w.heap.size) _ 2 3 (by kernel_rfl) rfl rfl rfl (Qac (o:=0) H8.out _) (Qal HR.out ((hX7b.trans (.below hb8)).set (.inr (Xb _)) _) ((hp7b.below hb8).set (by omega) _) (.ite _ _ _ _ _ _ ((hnx7b.later hb8).store H8.out (by decide) _) ((hny7b.later hb8).store H8.out (by decide) _) ((hnz7b.later hb8).store H8.out (by decide) _)))
def FnL(f:FuncId)(m:Ex→Toks→Option (Ex×Toks))(bp base N:Nat):Prop :=
 ∀w ts T v x,PS w bp base ts→Wf ts→ts.length≤N→base≤w.heap.size→NodeIs w base (.iface T v) x→Calls prog f #[.pointer (some ⟨bp,0,none⟩),.agg #[.iface T v]] w (QfY bp base w (m x ts))
theorem rel_w{L:Lex}{E:Toks→Option (Ex×Toks)}{bp base N:Nat}(hE:Sh E)(hA:FnC 217 (add L E) bp base N)(hh:FnL 218 (has L) bp base N)(hl:FnL 219 (like L) bp base N)(hi:FnL 220 (is L E) bp base N):FnC 206 (relation L E) bp base N:=by
 intro w ts hp hwf hN hbs;have hbb:=hp.hbp;have HA:=Hi hA;have HH:=Hi hh;have HL:=Hi hl;have HI:=Hi hi;have HE:=Hi hE;clear hA hh hl hi hE;go_enter func206,ntmps206
 go_wp2_with fail
 refine(HA.out _ ts (hp.below (Qab _ _)) hwf hN (by simp;omega)).mono ?_;rintro e w1⟨hX,hr⟩;have hs1:w.heap.size+1≤w1.heap.size:=by have:=hX.size;simpa using this
 have hR1:w1.heap[w.heap.size]? =some (.cells #[.nilIface] 299 (0,0)):=hX.heap (by omega) (Xa w _);have hX1:Ext (·=bp) w w1:=((Ext.refl _ w).alloc _).trans hX;clear hX;cases hm:add L E ts with
 | none =>
  rw[hm]at hr;obtain⟨T,v,rfl⟩:=hr;have HM:=Hi hm;clear hm;have c0:w1.cell? ⟨w.heap.size,0,none⟩=some .nilIface:=Qaa hR1 rfl;have f0:∀o,(w1.alloc o).frozen? ⟨w.heap.size,0,none⟩=false:=fun o=>Qae (Qaf hR1 o) 0
  have hlt:w.heap.size<w1.heap.size:=by omega
  have H1:=Hi hR1;clear hR1;go_wp2;exact Qai (R:=w.heap.size) _ 2 3 (by kernel_rfl) rfl rfl rfl (Qaf (Qac (o:=0) H1.out _) _) (Qak (by unfold Pg.relation;rw[HM.out]) ((hX1.set (.inr (Xb _)) _).alloc _))
 | some p =>
  obtain⟨x,us⟩:=p;rw[hm]at hr;obtain⟨T,v,rfl,hp1,hn1⟩:=hr;have hsh:=Qer HE.out _ _ _ hwf hm;have hwu:=hsh.1.wf hwf;have HM:=Hi hm;clear hm
  go_upto_region 4 with(fail)
  obtain⟨w2,hw⟩:∃w2,w1.alloc (.cells #[.iface T v] 299)=w2:=⟨_,rfl⟩
  rw[hw];have hb:Below w1.heap.size w1 w2:=by rw[←hw];exact Qab _ _
  have hB2:w2.heap[w1.heap.size]? =some (.cells #[.iface T v] 299 (0,0)):=by rw[←hw];exact Xa _ _
  have hp2:=hp1.below hb;have hX2:=hX1.trans (.below hb);have hs2:=hb.size;have hn2:=hn1.later hb;have hR2:=Bk hb hR1;clear hw hb hp1 hX1 hn1 hR1;obtain⟨t,r,rfl⟩:∃t r,us=t::r:=by cases us with | nil=>exact absurd rfl hp2.ne | cons t r=>exact⟨t,r,rfl⟩
  go_wp2_with fail
  refine(Qa7 hp2).mono ?_;rintro e w3'⟨rfl,hb3⟩
  go_upto_region 5 with(fail)
  obtain⟨w3,hw⟩:∃w3,w3'.alloc (.cells t.row 122)=w3:=⟨_,rfl⟩
  rw[hw];have hb:Below w2.heap.size w2 w3:=by rw[←hw];exact hb3.trans ((Qab w3' _).mono hb3.size)
  have htok:w3.heap[w3'.heap.size]? =some (.cells t.row 122 (0,0)):=by rw[←hw];exact Xa _ _
  have ctok:w3.cell? ⟨w3'.heap.size,5,none⟩=some (.string t.tx):=Qaa htok rfl;have hp3:=hp2.below hb;have hX3:=hX2.trans (.below hb);have hs3:=hb.size;have hn3:=hn2.later hb;have hB3:=Bk hb hB2;have hR3:=Bk hb hR2;clear hw hb hb3 hp2 hX2 hn2 hB2 hR2 htok;cases ht:(t.tx.toList==[104,97,115])with
  | true =>
   have hres:relation L E ts=has L x (adv (t::r)):=by unfold Pg.relation;rw[HM.out];simp only[tx,ht,Xf,if_false,if_true]
   have HR:=Hi hres;clear hres;have hav:(adv (t::r)).length<(t::r).length:=Qax hwu (s:=[104,97,115]) ht (by decide)
   go_wp2_with fail
   refine(Qaz hp3).mono ?_;rintro e w4⟨rfl,hp4,hX⟩;have hs4:=hX.size;have hX4:=hX3.trans hX;have hn4:=hn3.keep hX (fun d hd=>by omega);have hB4:=hX.heap (by omega) hB3;have hR4:=hX.heap (by omega) hR3;clear hn3 hB3 hR3;clear hX hX3 hp3;have c1:w4.cell? ⟨w1.heap.size,0,none⟩=some (.iface T v):=Qaa hB4 rfl
   go_wp2_with fail
   refine(HH.out _ _ _ _ _ hp4 hwu.adv (by omega) (by have:=hX4.size;omega) hn4).mono ?_;rintro e w5⟨hX,hr⟩;have hR5:=hX.heap (by omega) hR4;have hX5:=hX4.trans hX;have c0:w5.cell? ⟨w.heap.size,0,none⟩=some .nilIface:=Qaa hR5 rfl;have f0:w5.frozen? ⟨w.heap.size,0,none⟩=false:=Qae hR5 0;have H5:=Hi hR5;clear hX hR5 hR4 hX4 hp4 hB4 hn4 c1 ctok;cases hm2:has L x (adv (t::r))with
   | none =>
    rw[hm2]at hr;obtain⟨T2,v2,rfl⟩:=hr;have HM2:=Hi hm2;clear hm2;go_wp2;exact Qai (R:=w.heap.size) _ 2 3 (by kernel_rfl) rfl rfl rfl (Qac (o:=0) H5.out _) (Qak (HR.out.trans HM2.out) (hX5.set (.inr (Xb _)) _))
   | some p2 =>
    obtain⟨z,zs⟩:=p2;rw[hm2]at hr;obtain⟨T2,v2,rfl,hp5,hn5⟩:=hr;have HM2:=Hi hm2;clear hm2;go_wp2;exact Qai (R:=w.heap.size) _ 2 3 (by kernel_rfl) rfl rfl rfl (Qac (o:=0) H5.out _) (Qal (HR.out.trans HM2.out) (hX5.set (.inr (Xb _)) _) (hp5.set (by omega) _) (hn5.store H5.out (by decide) _))
  | false =>
   have hthas:=ht;clear ht;cases ht:(t.tx.toList==[108,105,107,101])with
   | true =>
    have hres:relation L E ts=like L x (adv (t::r)):=by unfold Pg.relation;rw[HM.out];simp only[tx,hthas,ht,Xf,if_false,if_true]
    have HR:=Hi hres;clear hres;have hav:(adv (t::r)).length<(t::r).length:=Qax hwu (s:=[108,105,107,101]) ht (by decide)
    go_wp2_with fail
    refine(Qaz hp3).mono ?_;rintro e w4⟨rfl,hp4,hX⟩;have hs4:=hX.size;have hX4:=hX3.trans hX;have hn4:=hn3.keep hX (fun d hd=>by omega);have hB4:=hX.heap (by omega) hB3;have hR4:=hX.heap (by omega) hR3;clear hn3 hB3 hR3;clear hX hX3 hp3;have c1:w4.cell? ⟨w1.heap.size,0,none⟩=some (.iface T v):=Qaa hB4 rfl
    go_wp2_with fail
    refine(HL.out _ _ _ _ _ hp4 hwu.adv (by omega) (by have:=hX4.size;omega) hn4).mono ?_;rintro e w5⟨hX,hr⟩;have hR5:=hX.heap (by omega) hR4;have hX5:=hX4.trans hX;have c0:w5.cell? ⟨w.heap.size,0,none⟩=some .nilIface:=Qaa hR5 rfl;have f0:w5.frozen? ⟨w.heap.size,0,none⟩=false:=Qae hR5 0;have H5:=Hi hR5;clear hX hR5 hR4 hX4 hp4 hB4 hn4 c1 ctok;cases hm2:like L x (adv (t::r))with
    | none =>
     rw[hm2]at hr;obtain⟨T2,v2,rfl⟩:=hr;have HM2:=Hi hm2;clear hm2;go_wp2;exact Qai (R:=w.heap.size) _ 2 3 (by kernel_rfl) rfl rfl rfl (Qac (o:=0) H5.out _) (Qak (HR.out.trans HM2.out) (hX5.set (.inr (Xb _)) _))
    | some p2 =>
     obtain⟨z,zs⟩:=p2;rw[hm2]at hr;obtain⟨T2,v2,rfl,hp5,hn5⟩:=hr;have HM2:=Hi hm2;clear hm2;go_wp2;exact Qai (R:=w.heap.size) _ 2 3 (by kernel_rfl) rfl rfl rfl (Qac (o:=0) H5.out _) (Qal (HR.out.trans HM2.out) (hX5.set (.inr (Xb _)) _) (hp5.set (by omega) _) (hn5.store H5.out (by decide) _))
   | false =>
    have htlike:=ht;clear ht;cases ht:(t.tx.toList==[105,115])with
    | true =>
     have hres:relation L E ts=is L E x (adv (t::r)):=by unfold Pg.relation;rw[HM.out];simp only[tx,hthas,htlike,ht,Xf,if_false,if_true]
     have HR:=Hi hres;clear hres;have hav:(adv (t::r)).length<(t::r).length:=Qax hwu (s:=[105,115]) ht (by decide)
     go_wp2_with fail
     refine(Qaz hp3).mono ?_;rintro e w4⟨rfl,hp4,hX⟩;have hs4:=hX.size;have hX4:=hX3.trans hX;have hn4:=hn3.keep hX (fun d hd=>by omega);have hB4:=hX.heap (by omega) hB3;have hR4:=hX.heap (by omega) hR3;clear hn3 hB3 hR3;clear hX hX3 hp3;have c1:w4.cell? ⟨w1.heap.size,0,none⟩=some (.iface T v):=Qaa hB4 rfl
     go_wp2_with fail
     refine(HI.out _ _ _ _ _ hp4 hwu.adv (by omega) (by have:=hX4.size;omega) hn4).mono ?_;rintro e w5⟨hX,hr⟩;have hR5:=hX.heap (by omega) hR4;have hX5:=hX4.trans hX;have c0:w5.cell? ⟨w.heap.size,0,none⟩=some .nilIface:=Qaa hR5 rfl;have f0:w5.frozen? ⟨w.heap.size,0,none⟩=false:=Qae hR5 0;have H5:=Hi hR5;clear hX hR5 hR4 hX4 hp4 hB4 hn4 c1 ctok;cases hm2:is L E x (adv (t::r))with
     | none =>
      rw[hm2]at hr;obtain⟨T2,v2,rfl⟩:=hr;have HM2:=Hi hm2;clear hm2;go_wp2;exact Qai (R:=w.heap.size) _ 2 3 (by kernel_rfl) rfl rfl rfl (Qac (o:=0) H5.out _) (Qak (HR.out.trans HM2.out) (hX5.set (.inr (Xb _)) _))
     | some p2 =>
      obtain⟨z,zs⟩:=p2;rw[hm2]at hr;obtain⟨T2,v2,rfl,hp5,hn5⟩:=hr;have HM2:=Hi hm2;clear hm2;go_wp2;exact Qai (R:=w.heap.size) _ 2 3 (by kernel_rfl) rfl rfl rfl (Qac (o:=0) H5.out _) (Qal (HR.out.trans HM2.out) (hX5.set (.inr (Xb _)) _) (hp5.set (by omega) _) (hn5.store H5.out (by decide) _))
    | false =>
     have htis:=ht;clear ht;cases ht:(t.tx.toList==[60])with
     | true =>
      have hop:QbM t.tx.toList=some 263:=by simp only[QbM,ht,Xf,if_false,if_true]
      have hav:(adv (t::r)).length<(t::r).length:=Qax hwu (s:=[60]) ht (by decide)
      go_wp2_with fail
      refine(Qaz hp3).mono ?_;rintro e w4⟨rfl,hp4,hX⟩;have hs4:=hX.size;have hX4:=hX3.trans hX;have hn4:=hn3.keep hX (fun d hd=>by omega);have hB4:=hX.heap (by omega) hB3;have hR4:=hX.heap (by omega) hR3;clear hn3 hB3 hR3;clear hX hX3 hp3;have c1:w4.cell? ⟨w1.heap.size,0,none⟩=some (.iface T v):=Qaa hB4 rfl
      go_wp2_with fail
      refine(HA.out _ _ hp4 hwu.adv (by omega) (by have:=hX4.size;omega)).mono ?_;rintro e w5⟨hX,hr⟩;have hs5:=hX.size;have hX5:=hX4.trans hX;have hn5:=hn4.keep hX (fun d hd=>by omega);have hB5:=hX.heap (by omega) hB4;have hR5:=hX.heap (by omega) hR4;clear hn4 hB4 hR4;clear hX hX4 hp4 c1 ctok;cases hm2:add L E (adv (t::r))with
      | none =>
       rw[hm2]at hr;obtain⟨T2,v2,rfl⟩:=hr;have hres:relation L E ts=none:=by unfold Pg.relation;rw[HM.out];simp only[tx,hthas,htlike,htis,Xf,if_false,if_true,hop,hm2]
       have HR:=Hi hres;clear hres hm2 hop;have c0:w5.cell? ⟨w.heap.size,0,none⟩=some .nilIface:=Qaa hR5 rfl;have f0:∀o,(w5.alloc o).frozen? ⟨w.heap.size,0,none⟩=false:=fun o=>Qae (Qaf hR5 o) 0
       have hlt:=Qad hR5;have H5:=Hi hR5;clear hR5 hB5;go_wp2;exact Qai (R:=w.heap.size) _ 2 3 (by kernel_rfl) rfl rfl rfl (Qaf (Qac (o:=0) H5.out _) _) (Qak HR.out ((hX5.set (.inr (Xb _)) _).alloc _))
      | some p2 =>
       obtain⟨z,zs⟩:=p2;rw[hm2]at hr;obtain⟨T2,v2,rfl,hp5,hz5⟩:=hr;have hres:relation L E ts=some (.bin 263 x z,zs):=by unfold Pg.relation;rw[HM.out];simp only[tx,hthas,htlike,htis,Xf,if_false,if_true,hop,hm2]
       have HR:=Hi hres;clear hres hm2 hop;have c1:w5.cell? ⟨w1.heap.size,0,none⟩=some (.iface T v):=Qaa hB5 rfl;have hlt1:=Qad hB5;have hlt2:=Qad hR5;have HB5:=Hi hB5;have HR5:=Hi hR5;clear hB5 hR5
       go_wp2_with fail
       refine(n221_c _ _ _ _ _).mono ?_;rintro e w6⟨rfl,hb6⟩;have hb:Below w5.heap.size w5 w6:=(Qab w5 _).trans (hb6.mono (by simp));have hR6:=(hb.block _ hlt2).trans HR5.out;have c0:w6.cell? ⟨w.heap.size,0,none⟩=some .nilIface:=Qaa hR6 rfl;have f0:w6.frozen? ⟨w.heap.size,0,none⟩=false:=Qae hR6 0;have H6:=Hi hR6;clear hR6 c1 hb6;go_wp2;exact Qai (R:=w.heap.size) _ 2 3 (by kernel_rfl) rfl rfl rfl (Qac (o:=0) H6.out _) (Qal HR.out ((hX5.trans (.below hb)).set (.inr (Xb _)) _) ((hp5.below hb).set (by omega) _) (.bin 263 _ _ _ _ ((hn5.later hb).store H6.out (by decide) _) ((hz5.later hb).store H6.out (by decide) _)))
     | false =>
      have hu0:=ht;clear ht;cases ht:(t.tx.toList==[60,61])with
      | true =>
       have hop:QbM t.tx.toList=some 264:=by simp only[QbM,hu0,ht,Xf,if_false,if_true]
       have hav:(adv (t::r)).length<(t::r).length:=Qax hwu (s:=[60,61]) ht (by decide)
       go_wp2_with fail
       refine(Qaz hp3).mono ?_;rintro e w4⟨rfl,hp4,hX⟩;have hs4:=hX.size;have hX4:=hX3.trans hX;have hn4:=hn3.keep hX (fun d hd=>by omega);have hB4:=hX.heap (by omega) hB3;have hR4:=hX.heap (by omega) hR3;clear hn3 hB3 hR3;clear hX hX3 hp3;have c1:w4.cell? ⟨w1.heap.size,0,none⟩=some (.iface T v):=Qaa hB4 rfl
       go_wp2_with fail
       refine(HA.out _ _ hp4 hwu.adv (by omega) (by have:=hX4.size;omega)).mono ?_;rintro e w5⟨hX,hr⟩;have hs5:=hX.size;have hX5:=hX4.trans hX;have hn5:=hn4.keep hX (fun d hd=>by omega);have hB5:=hX.heap (by omega) hB4;have hR5:=hX.heap (by omega) hR4;clear hn4 hB4 hR4;clear hX hX4 hp4 c1 ctok;cases hm2:add L E (adv (t::r))with
       | none =>
        rw[hm2]at hr;obtain⟨T2,v2,rfl⟩:=hr;have hres:relation L E ts=none:=by unfold Pg.relation;rw[HM.out];simp only[tx,hthas,htlike,htis,Xf,if_false,if_true,hop,hm2]
        have HR:=Hi hres;clear hres hm2 hop;have c0:w5.cell? ⟨w.heap.size,0,none⟩=some .nilIface:=Qaa hR5 rfl;have f0:∀o,(w5.alloc o).frozen? ⟨w.heap.size,0,none⟩=false:=fun o=>Qae (Qaf hR5 o) 0
        have hlt:=Qad hR5;have H5:=Hi hR5;clear hR5 hB5;go_wp2;exact Qai (R:=w.heap.size) _ 2 3 (by kernel_rfl) rfl rfl rfl (Qaf (Qac (o:=0) H5.out _) _) (Qak HR.out ((hX5.set (.inr (Xb _)) _).alloc _))
       | some p2 =>
        obtain⟨z,zs⟩:=p2;rw[hm2]at hr;obtain⟨T2,v2,rfl,hp5,hz5⟩:=hr;have hres:relation L E ts=some (.bin 264 x z,zs):=by unfold Pg.relation;rw[HM.out];simp only[tx,hthas,htlike,htis,Xf,if_false,if_true,hop,hm2]
        have HR:=Hi hres;clear hres hm2 hop;have c1:w5.cell? ⟨w1.heap.size,0,none⟩=some (.iface T v):=Qaa hB5 rfl;have hlt1:=Qad hB5;have hlt2:=Qad hR5;have HB5:=Hi hB5;have HR5:=Hi hR5;clear hB5 hR5
        go_wp2_with fail
        refine(n222_c _ _ _ _ _).mono ?_;rintro e w6⟨rfl,hb6⟩;have hb:Below w5.heap.size w5 w6:=(Qab w5 _).trans (hb6.mono (by simp));have hR6:=(hb.block _ hlt2).trans HR5.out;have c0:w6.cell? ⟨w.heap.size,0,none⟩=some .nilIface:=Qaa hR6 rfl;have f0:w6.frozen? ⟨w.heap.size,0,none⟩=false:=Qae hR6 0;have H6:=Hi hR6;clear hR6 c1 hb6;go_wp2;exact Qai (R:=w.heap.size) _ 2 3 (by kernel_rfl) rfl rfl rfl (Qac (o:=0) H6.out _) (Qal HR.out ((hX5.trans (.below hb)).set (.inr (Xb _)) _) ((hp5.below hb).set (by omega) _) (.bin 264 _ _ _ _ ((hn5.later hb).store H6.out (by decide) _) ((hz5.later hb).store H6.out (by decide) _)))
      | false =>
       have hu1:=ht;clear ht;cases ht:(t.tx.toList==[62])with
       | true =>
        have hop:QbM t.tx.toList=some 265:=by simp only[QbM,hu0,hu1,ht,Xf,if_false,if_true]
        have hav:(adv (t::r)).length<(t::r).length:=Qax hwu (s:=[62]) ht (by decide)
        go_wp2_with fail
        refine(Qaz hp3).mono ?_;rintro e w4⟨rfl,hp4,hX⟩;have hs4:=hX.size;have hX4:=hX3.trans hX;have hn4:=hn3.keep hX (fun d hd=>by omega);have hB4:=hX.heap (by omega) hB3;have hR4:=hX.heap (by omega) hR3;clear hn3 hB3 hR3;clear hX hX3 hp3;have c1:w4.cell? ⟨w1.heap.size,0,none⟩=some (.iface T v):=Qaa hB4 rfl
        go_wp2_with fail
        refine(HA.out _ _ hp4 hwu.adv (by omega) (by have:=hX4.size;omega)).mono ?_;rintro e w5⟨hX,hr⟩;have hs5:=hX.size;have hX5:=hX4.trans hX;have hn5:=hn4.keep hX (fun d hd=>by omega);have hB5:=hX.heap (by omega) hB4;have hR5:=hX.heap (by omega) hR4;clear hn4 hB4 hR4;clear hX hX4 hp4 c1 ctok;cases hm2:add L E (adv (t::r))with
        | none =>
         rw[hm2]at hr;obtain⟨T2,v2,rfl⟩:=hr;have hres:relation L E ts=none:=by unfold Pg.relation;rw[HM.out];simp only[tx,hthas,htlike,htis,Xf,if_false,if_true,hop,hm2]
         have HR:=Hi hres;clear hres hm2 hop;have c0:w5.cell? ⟨w.heap.size,0,none⟩=some .nilIface:=Qaa hR5 rfl;have f0:∀o,(w5.alloc o).frozen? ⟨w.heap.size,0,none⟩=false:=fun o=>Qae (Qaf hR5 o) 0
         have hlt:=Qad hR5;have H5:=Hi hR5;clear hR5 hB5;go_wp2;exact Qai (R:=w.heap.size) _ 2 3 (by kernel_rfl) rfl rfl rfl (Qaf (Qac (o:=0) H5.out _) _) (Qak HR.out ((hX5.set (.inr (Xb _)) _).alloc _))
        | some p2 =>
         obtain⟨z,zs⟩:=p2;rw[hm2]at hr;obtain⟨T2,v2,rfl,hp5,hz5⟩:=hr;have hres:relation L E ts=some (.bin 265 x z,zs):=by unfold Pg.relation;rw[HM.out];simp only[tx,hthas,htlike,htis,Xf,if_false,if_true,hop,hm2]
         have HR:=Hi hres;clear hres hm2 hop;have c1:w5.cell? ⟨w1.heap.size,0,none⟩=some (.iface T v):=Qaa hB5 rfl;have hlt1:=Qad hB5;have hlt2:=Qad hR5;have HB5:=Hi hB5;have HR5:=Hi hR5;clear hB5 hR5
         go_wp2_with fail
         refine(n223_c _ _ _ _ _).mono ?_;rintro e w6⟨rfl,hb6⟩;have hb:Below w5.heap.size w5 w6:=(Qab w5 _).trans (hb6.mono (by simp));have hR6:=(hb.block _ hlt2).trans HR5.out;have c0:w6.cell? ⟨w.heap.size,0,none⟩=some .nilIface:=Qaa hR6 rfl;have f0:w6.frozen? ⟨w.heap.size,0,none⟩=false:=Qae hR6 0;have H6:=Hi hR6;clear hR6 c1 hb6;go_wp2;exact Qai (R:=w.heap.size) _ 2 3 (by kernel_rfl) rfl rfl rfl (Qac (o:=0) H6.out _) (Qal HR.out ((hX5.trans (.below hb)).set (.inr (Xb _)) _) ((hp5.below hb).set (by omega) _) (.bin 265 _ _ _ _ ((hn5.later hb).store H6.out (by decide) _) ((hz5.later hb).store H6.out (by decide) _)))
       | false =>
        have hu2:=ht;clear ht;cases ht:(t.tx.toList==[62,61])with
        | true =>
         have hop:QbM t.tx.toList=some 266:=by simp only[QbM,hu0,hu1,hu2,ht,Xf,if_false,if_true]
         have hav:(adv (t::r)).length<(t::r).length:=Qax hwu (s:=[62,61]) ht (by decide)
         go_wp2_with fail
         refine(Qaz hp3).mono ?_;rintro e w4⟨rfl,hp4,hX⟩;have hs4:=hX.size;have hX4:=hX3.trans hX;have hn4:=hn3.keep hX (fun d hd=>by omega);have hB4:=hX.heap (by omega) hB3;have hR4:=hX.heap (by omega) hR3;clear hn3 hB3 hR3;clear hX hX3 hp3;have c1:w4.cell? ⟨w1.heap.size,0,none⟩=some (.iface T v):=Qaa hB4 rfl
         go_wp2_with fail
         refine(HA.out _ _ hp4 hwu.adv (by omega) (by have:=hX4.size;omega)).mono ?_;rintro e w5⟨hX,hr⟩;have hs5:=hX.size;have hX5:=hX4.trans hX;have hn5:=hn4.keep hX (fun d hd=>by omega);have hB5:=hX.heap (by omega) hB4;have hR5:=hX.heap (by omega) hR4;clear hn4 hB4 hR4;clear hX hX4 hp4 c1 ctok;cases hm2:add L E (adv (t::r))with
         | none =>
          rw[hm2]at hr;obtain⟨T2,v2,rfl⟩:=hr;have hres:relation L E ts=none:=by unfold Pg.relation;rw[HM.out];simp only[tx,hthas,htlike,htis,Xf,if_false,if_true,hop,hm2]
          have HR:=Hi hres;clear hres hm2 hop;have c0:w5.cell? ⟨w.heap.size,0,none⟩=some .nilIface:=Qaa hR5 rfl;have f0:∀o,(w5.alloc o).frozen? ⟨w.heap.size,0,none⟩=false:=fun o=>Qae (Qaf hR5 o) 0
          have hlt:=Qad hR5;have H5:=Hi hR5;clear hR5 hB5;go_wp2;exact Qai (R:=w.heap.size) _ 2 3 (by kernel_rfl) rfl rfl rfl (Qaf (Qac (o:=0) H5.out _) _) (Qak HR.out ((hX5.set (.inr (Xb _)) _).alloc _))
         | some p2 =>
          obtain⟨z,zs⟩:=p2;rw[hm2]at hr;obtain⟨T2,v2,rfl,hp5,hz5⟩:=hr;have hres:relation L E ts=some (.bin 266 x z,zs):=by unfold Pg.relation;rw[HM.out];simp only[tx,hthas,htlike,htis,Xf,if_false,if_true,hop,hm2]
          have HR:=Hi hres;clear hres hm2 hop;have c1:w5.cell? ⟨w1.heap.size,0,none⟩=some (.iface T v):=Qaa hB5 rfl;have hlt1:=Qad hB5;have hlt2:=Qad hR5;have HB5:=Hi hB5;have HR5:=Hi hR5;clear hB5 hR5
          go_wp2_with fail
          refine(n224_c _ _ _ _ _).mono ?_;rintro e w6⟨rfl,hb6⟩;have hb:Below w5.heap.size w5 w6:=(Qab w5 _).trans (hb6.mono (by simp));have hR6:=(hb.block _ hlt2).trans HR5.out;have c0:w6.cell? ⟨w.heap.size,0,none⟩=some .nilIface:=Qaa hR6 rfl;have f0:w6.frozen? ⟨w.heap.size,0,none⟩=false:=Qae hR6 0;have H6:=Hi hR6;clear hR6 c1 hb6;go_wp2;exact Qai (R:=w.heap.size) _ 2 3 (by kernel_rfl) rfl rfl rfl (Qac (o:=0) H6.out _) (Qal HR.out ((hX5.trans (.below hb)).set (.inr (Xb _)) _) ((hp5.below hb).set (by omega) _) (.bin 266 _ _ _ _ ((hn5.later hb).store H6.out (by decide) _) ((hz5.later hb).store H6.out (by decide) _)))
        | false =>
         have hu3:=ht;clear ht;cases ht:(t.tx.toList==[33,61])with
         | true =>
          have hop:QbM t.tx.toList=some 267:=by simp only[QbM,hu0,hu1,hu2,hu3,ht,Xf,if_false,if_true]
          have hav:(adv (t::r)).length<(t::r).length:=Qax hwu (s:=[33,61]) ht (by decide)
          go_wp2_with fail
          refine(Qaz hp3).mono ?_;rintro e w4⟨rfl,hp4,hX⟩;have hs4:=hX.size;have hX4:=hX3.trans hX;have hn4:=hn3.keep hX (fun d hd=>by omega);have hB4:=hX.heap (by omega) hB3;have hR4:=hX.heap (by omega) hR3;clear hn3 hB3 hR3;clear hX hX3 hp3;have c1:w4.cell? ⟨w1.heap.size,0,none⟩=some (.iface T v):=Qaa hB4 rfl
          go_wp2_with fail
          refine(HA.out _ _ hp4 hwu.adv (by omega) (by have:=hX4.size;omega)).mono ?_;rintro e w5⟨hX,hr⟩;have hs5:=hX.size;have hX5:=hX4.trans hX;have hn5:=hn4.keep hX (fun d hd=>by omega);have hB5:=hX.heap (by omega) hB4;have hR5:=hX.heap (by omega) hR4;clear hn4 hB4 hR4;clear hX hX4 hp4 c1 ctok;cases hm2:add L E (adv (t::r))with
          | none =>
           rw[hm2]at hr;obtain⟨T2,v2,rfl⟩:=hr;have hres:relation L E ts=none:=by unfold Pg.relation;rw[HM.out];simp only[tx,hthas,htlike,htis,Xf,if_false,if_true,hop,hm2]
           have HR:=Hi hres;clear hres hm2 hop;have c0:w5.cell? ⟨w.heap.size,0,none⟩=some .nilIface:=Qaa hR5 rfl;have f0:∀o,(w5.alloc o).frozen? ⟨w.heap.size,0,none⟩=false:=fun o=>Qae (Qaf hR5 o) 0
           have hlt:=Qad hR5;have H5:=Hi hR5;clear hR5 hB5;go_wp2;exact Qai (R:=w.heap.size) _ 2 3 (by kernel_rfl) rfl rfl rfl (Qaf (Qac (o:=0) H5.out _) _) (Qak HR.out ((hX5.set (.inr (Xb _)) _).alloc _))
          | some p2 =>
           obtain⟨z,zs⟩:=p2;rw[hm2]at hr;obtain⟨T2,v2,rfl,hp5,hz5⟩:=hr;have hres:relation L E ts=some (.bin 267 x z,zs):=by unfold Pg.relation;rw[HM.out];simp only[tx,hthas,htlike,htis,Xf,if_false,if_true,hop,hm2]
           have HR:=Hi hres;clear hres hm2 hop;have c1:w5.cell? ⟨w1.heap.size,0,none⟩=some (.iface T v):=Qaa hB5 rfl;have hlt1:=Qad hB5;have hlt2:=Qad hR5;have HB5:=Hi hB5;have HR5:=Hi hR5;clear hB5 hR5
           go_wp2_with fail
           refine(n225_c _ _ _ _ _).mono ?_;rintro e w6⟨rfl,hb6⟩;have hb:Below w5.heap.size w5 w6:=(Qab w5 _).trans (hb6.mono (by simp));have hR6:=(hb.block _ hlt2).trans HR5.out;have c0:w6.cell? ⟨w.heap.size,0,none⟩=some .nilIface:=Qaa hR6 rfl;have f0:w6.frozen? ⟨w.heap.size,0,none⟩=false:=Qae hR6 0;have H6:=Hi hR6;clear hR6 c1 hb6;go_wp2;exact Qai (R:=w.heap.size) _ 2 3 (by kernel_rfl) rfl rfl rfl (Qac (o:=0) H6.out _) (Qal HR.out ((hX5.trans (.below hb)).set (.inr (Xb _)) _) ((hp5.below hb).set (by omega) _) (.bin 267 _ _ _ _ ((hn5.later hb).store H6.out (by decide) _) ((hz5.later hb).store H6.out (by decide) _)))
         | false =>
          have hu4:=ht;clear ht;cases ht:(t.tx.toList==[61,61])with
          | true =>
           have hop:QbM t.tx.toList=some 268:=by simp only[QbM,hu0,hu1,hu2,hu3,hu4,ht,Xf,if_false,if_true]
           have hav:(adv (t::r)).length<(t::r).length:=Qax hwu (s:=[61,61]) ht (by decide)
           go_wp2_with fail
           refine(Qaz hp3).mono ?_;rintro e w4⟨rfl,hp4,hX⟩;have hs4:=hX.size;have hX4:=hX3.trans hX;have hn4:=hn3.keep hX (fun d hd=>by omega);have hB4:=hX.heap (by omega) hB3;have hR4:=hX.heap (by omega) hR3;clear hn3 hB3 hR3;clear hX hX3 hp3;have c1:w4.cell? ⟨w1.heap.size,0,none⟩=some (.iface T v):=Qaa hB4 rfl
           go_wp2_with fail
           refine(HA.out _ _ hp4 hwu.adv (by omega) (by have:=hX4.size;omega)).mono ?_;rintro e w5⟨hX,hr⟩;have hs5:=hX.size;have hX5:=hX4.trans hX;have hn5:=hn4.keep hX (fun d hd=>by omega);have hB5:=hX.heap (by omega) hB4;have hR5:=hX.heap (by omega) hR4;clear hn4 hB4 hR4;clear hX hX4 hp4 c1 ctok;cases hm2:add L E (adv (t::r))with
           | none =>
            rw[hm2]at hr;obtain⟨T2,v2,rfl⟩:=hr;have hres:relation L E ts=none:=by unfold Pg.relation;rw[HM.out];simp only[tx,hthas,htlike,htis,Xf,if_false,if_true,hop,hm2]
            have HR:=Hi hres;clear hres hm2 hop;have c0:w5.cell? ⟨w.heap.size,0,none⟩=some .nilIface:=Qaa hR5 rfl;have f0:∀o,(w5.alloc o).frozen? ⟨w.heap.size,0,none⟩=false:=fun o=>Qae (Qaf hR5 o) 0
            have hlt:=Qad hR5;have H5:=Hi hR5;clear hR5 hB5;go_wp2;exact Qai (R:=w.heap.size) _ 2 3 (by kernel_rfl) rfl rfl rfl (Qaf (Qac (o:=0) H5.out _) _) (Qak HR.out ((hX5.set (.inr (Xb _)) _).alloc _))
           | some p2 =>
            obtain⟨z,zs⟩:=p2;rw[hm2]at hr;obtain⟨T2,v2,rfl,hp5,hz5⟩:=hr;have hres:relation L E ts=some (.bin 268 x z,zs):=by unfold Pg.relation;rw[HM.out];simp only[tx,hthas,htlike,htis,Xf,if_false,if_true,hop,hm2]
            have HR:=Hi hres;clear hres hm2 hop;have c1:w5.cell? ⟨w1.heap.size,0,none⟩=some (.iface T v):=Qaa hB5 rfl;have hlt1:=Qad hB5;have hlt2:=Qad hR5;have HB5:=Hi hB5;have HR5:=Hi hR5;clear hB5 hR5
            go_wp2_with fail
            refine(n226_c _ _ _ _ _).mono ?_;rintro e w6⟨rfl,hb6⟩;have hb:Below w5.heap.size w5 w6:=(Qab w5 _).trans (hb6.mono (by simp));have hR6:=(hb.block _ hlt2).trans HR5.out;have c0:w6.cell? ⟨w.heap.size,0,none⟩=some .nilIface:=Qaa hR6 rfl;have f0:w6.frozen? ⟨w.heap.size,0,none⟩=false:=Qae hR6 0;have H6:=Hi hR6;clear hR6 c1 hb6;go_wp2;exact Qai (R:=w.heap.size) _ 2 3 (by kernel_rfl) rfl rfl rfl (Qac (o:=0) H6.out _) (Qal HR.out ((hX5.trans (.below hb)).set (.inr (Xb _)) _) ((hp5.below hb).set (by omega) _) (.bin 268 _ _ _ _ ((hn5.later hb).store H6.out (by decide) _) ((hz5.later hb).store H6.out (by decide) _)))
          | false =>
           have hu5:=ht;clear ht;cases ht:(t.tx.toList==[105,110])with
           | true =>
            have hop:QbM t.tx.toList=some 269:=by simp only[QbM,hu0,hu1,hu2,hu3,hu4,hu5,ht,Xf,if_false,if_true]
            have hav:(adv (t::r)).length<(t::r).length:=Qax hwu (s:=[105,110]) ht (by decide)
            go_wp2_with fail
            refine(Qaz hp3).mono ?_;rintro e w4⟨rfl,hp4,hX⟩;have hs4:=hX.size;have hX4:=hX3.trans hX;have hn4:=hn3.keep hX (fun d hd=>by omega);have hB4:=hX.heap (by omega) hB3;have hR4:=hX.heap (by omega) hR3;clear hn3 hB3 hR3;clear hX hX3 hp3;have c1:w4.cell? ⟨w1.heap.size,0,none⟩=some (.iface T v):=Qaa hB4 rfl
            go_wp2_with fail
            refine(HA.out _ _ hp4 hwu.adv (by omega) (by have:=hX4.size;omega)).mono ?_;rintro e w5⟨hX,hr⟩;have hs5:=hX.size;have hX5:=hX4.trans hX;have hn5:=hn4.keep hX (fun d hd=>by omega);have hB5:=hX.heap (by omega) hB4;have hR5:=hX.heap (by omega) hR4;clear hn4 hB4 hR4;clear hX hX4 hp4 c1 ctok;cases hm2:add L E (adv (t::r))with
            | none =>
             rw[hm2]at hr;obtain⟨T2,v2,rfl⟩:=hr;have hres:relation L E ts=none:=by unfold Pg.relation;rw[HM.out];simp only[tx,hthas,htlike,htis,Xf,if_false,if_true,hop,hm2]
             have HR:=Hi hres;clear hres hm2 hop;have c0:w5.cell? ⟨w.heap.size,0,none⟩=some .nilIface:=Qaa hR5 rfl;have f0:∀o,(w5.alloc o).frozen? ⟨w.heap.size,0,none⟩=false:=fun o=>Qae (Qaf hR5 o) 0
             have hlt:=Qad hR5;have H5:=Hi hR5;clear hR5 hB5;go_wp2;exact Qai (R:=w.heap.size) _ 2 3 (by kernel_rfl) rfl rfl rfl (Qaf (Qac (o:=0) H5.out _) _) (Qak HR.out ((hX5.set (.inr (Xb _)) _).alloc _))
            | some p2 =>
             obtain⟨z,zs⟩:=p2;rw[hm2]at hr;obtain⟨T2,v2,rfl,hp5,hz5⟩:=hr;have hres:relation L E ts=some (.bin 269 x z,zs):=by unfold Pg.relation;rw[HM.out];simp only[tx,hthas,htlike,htis,Xf,if_false,if_true,hop,hm2]
             have HR:=Hi hres;clear hres hm2 hop;have c1:w5.cell? ⟨w1.heap.size,0,none⟩=some (.iface T v):=Qaa hB5 rfl;have hlt1:=Qad hB5;have hlt2:=Qad hR5;have HB5:=Hi hB5;have HR5:=Hi hR5;clear hB5 hR5
             go_wp2_with fail
             refine(n227_c _ _ _ _ _).mono ?_;rintro e w6⟨rfl,hb6⟩;have hb:Below w5.heap.size w5 w6:=(Qab w5 _).trans (hb6.mono (by simp));have hR6:=(hb.block _ hlt2).trans HR5.out;have c0:w6.cell? ⟨w.heap.size,0,none⟩=some .nilIface:=Qaa hR6 rfl;have f0:w6.frozen? ⟨w.heap.size,0,none⟩=false:=Qae hR6 0;have H6:=Hi hR6;clear hR6 c1 hb6;go_wp2;exact Qai (R:=w.heap.size) _ 2 3 (by kernel_rfl) rfl rfl rfl (Qac (o:=0) H6.out _) (Qal HR.out ((hX5.trans (.below hb)).set (.inr (Xb _)) _) ((hp5.below hb).set (by omega) _) (.bin 269 _ _ _ _ ((hn5.later hb).store H6.out (by decide) _) ((hz5.later hb).store H6.out (by decide) _)))
           | false =>
            have hu6:=ht;clear ht;have hop:QbM t.tx.toList=none:=by simp only[QbM,hu0,hu1,hu2,hu3,hu4,hu5,hu6,Xf,if_false,if_true]
            have hres:relation L E ts=some (x,t::r):=by unfold Pg.relation;rw[HM.out];simp only[tx,hthas,htlike,htis,Xf,if_false,if_true,hop]
            have HR:=Hi hres;clear hres hop;have c1:w3.cell? ⟨w1.heap.size,0,none⟩=some (.iface T v):=Qaa hB3 rfl;have c0:w3.cell? ⟨w.heap.size,0,none⟩=some .nilIface:=Qaa hR3 rfl;have f0:w3.frozen? ⟨w.heap.size,0,none⟩=false:=Qae hR3 0;have H3:=Hi hR3;clear hR3 hB3;go_wp2;exact Qai (R:=w.heap.size) _ 2 3 (by kernel_rfl) rfl rfl rfl (Qac (o:=0) H3.out _) (Qal HR.out (hX3.set (.inr (Xb _)) _) (hp3.set (by omega) _) (hn3.store H3.out (by decide) _))
end Go.Proofs.Pg
