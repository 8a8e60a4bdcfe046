/- FnDecodeAll, part 30. -/
import Derived.Test.YtmhjkkkhdlnngaaGreatDoorZ25
import Derived.Test.YtmhjkkkhdlnngaaGreatDoorZ26
import Derived.Test.YtmhjkkkhdlnngaaGreatDoorZ27
set_option linter.all false
set_option maxRecDepth 100000
set_option maxHeartbeats 0
namespace Go.Proofs.Pg
theorem QdR(t:List UInt8)(ht:t.length≤1000000):∀(f:Nat)(acc:List Tok)(p:Tok×Sc)(ts:List Tok),Qde t f acc p=some ts→p.1.tx.size≤1000000→(∀k∈acc,k.tx.size≤1000000)→ts.length≤acc.length+f∧∀k∈ts,k.tx.size≤1000000
 | 0,_,_,_,h,_,_=>by cases h
 | f+1,acc,p,ts,h,hp,ha=>by
  rw[Qde]at h;split at h
  ·cases h
  ·split at h
   ·cases h
    refine⟨by rw[List.length_append,List.length_singleton];omega,fun k hk=>?_⟩;rcases List.mem_append.1 hk with hk | hk
    ·exact ha k hk
    ·rw[List.mem_singleton.1 hk];exact Nat.zero_le _
   ·have:=QdR t ht f _ _ _ h (tokSz t ht _) (fun k hk=>by
     rcases List.mem_append.1 hk with hk | hk
     ·exact ha k hk
     ·rw[List.mem_singleton.1 hk];exact hp)
    exact⟨by have h1:=this.1;rw[List.length_append,List.length_singleton]at h1;omega,this.2⟩
theorem QhX{t:List UInt8}{ts:List Tok}(ht:t.length≤800000)(h:toks t=some ts):Good ts:=by
 have h1:=QdR t (by omega) _ _ _ _ h (tokSz t (by omega) _) (fun k hk=>by cases hk);exact⟨QhW h,by have:=h1.1;rw[List.length_nil]at this;omega,h1.2⟩
theorem QdS{L:Lex}:∀(f:Nat)(acc:List (ByteArray×ByteArray))(ts us:Toks)(l:List (ByteArray×ByteArray)),Qb9 L f acc ts=some (l,us)→l.length≤acc.length+f
 | 0,_,_,_,_,he=>by cases he
 | f+1,acc,ts,us,l,he=>by
  rw[Qb9]at he;split at he
  ·split at he
   ·cases he
   ·have:=QdS f _ _ _ _ he
    rw[List.length_append,List.length_singleton]at this;omega
  ·cases he;omega
theorem QeJ{L:Lex}:∀(f:Nat)(acc:List (ByteArray×ByteArray))(ts us:Toks)(l:List (ByteArray×ByteArray)),Qcg L f acc ts=some (l,us)→l.length≤acc.length+f
 | 0,_,_,_,_,he=>by cases he
 | f+1,acc,ts,us,l,he=>by
  rw[Qcg]at he;split at he
  ·cases he;omega
  ·split at he
   ·cases he
   ·split at he
    ·have:=QeJ f _ _ _ _ he
     rw[List.length_append,List.length_singleton]at this;omega
    ·split at he
     ·cases he;rw[List.length_append,List.length_singleton];omega
     ·cases he
theorem QeK{E:Toks→Option (Ex×Toks)}(hE:Sh E)(hO:OkF E):∀(f:Nat)(acc:List (Bool×Ex))(ts us:Toks)(l:List (Bool×Ex)),Good ts→(∀c∈acc,OkE c.2)→Qbh E f acc ts=some (l,us)→l.length≤acc.length+f∧∀c∈l,OkE c.2
 | 0,_,_,_,_,_,_,he=>by cases he
 | f+1,acc,ts,us,l,h,ha,he=>by
  have key:∀(b:Bool)(x:Ex)(vs:Toks),cond E (adv ts)=some (x,vs)→Qbh E f (acc++[(b,x)]) vs=some (l,us)→l.length≤acc.length+(f+1)∧∀c∈l,OkE c.2:=by
   intro b x vs hv he;have h1:=h.adv.sf (Qdr hE h.adv.wf hv);have hx:OkE x:=by
    rw[cond]at hv;split at hv
    ·cases hv
    ·rename_i zs hz
     split at hv
     ·cases hv
     ·rename_i y ws hw
      split at hv
      ·cases hv
      ·cases hv
       exact hO _ _ _ (h.adv.sf (QaC h.adv.wf hz)) hw
   have:=QeK hE hO f _ _ _ _ h1 (fun c hc=>(List.mem_append.1 hc).elim (ha c) (fun k=>by rw[List.mem_singleton.1 k];exact hx)) he;exact⟨by have h9:=this.1;rw[List.length_append,List.length_singleton]at h9;omega,this.2⟩
  rw[Qbh]at he;split at he
  ·split at he
   ·cases he
   ·rename_i x vs hv
    exact key _ _ _ hv he
  ·split at he
   ·split at he
    ·cases he
    ·rename_i x vs hv
     exact key _ _ _ hv he
   ·cases he;exact⟨by omega,ha⟩
theorem QdT{L:Lex}{wd:List UInt8}{ts us:Toks}{s:Scp}(he:Qat L wd ts=some (s,us)):∀l,s≠.inSet l:=by
 intro l hs;subst hs;unfold Qat at he
 repeat' split at he
 all_goals cases he
theorem Qgu{L:Lex}{ts us:Toks}{s:Scp}(h:Good ts)(he:QaI L ts=some (s,us)):∀l,s=.inSet l→l.length≤1000000:=by
 intro l hs;subst hs;unfold QaI at he;split at he
 ·cases he
 ·rename_i vs hv
  have h1:=h.sf (QaC h.wf hv);split at he
  ·split at he<;>cases he
  ·split at he
   ·split at he
    ·split at he
     ·cases he
     ·rename_i z zs hz
      cases he;have:=QeJ _ _ _ _ _ hz;have h9:=h1.adv.adv.len;rw[List.length_nil]at this;omega
    ·split at he<;>cases he
   ·cases he
theorem QhY{L:Lex}{E:Toks→Option (Ex×Toks)}(hE:Sh E)(hO:OkF E){ts us:Toks}{P:Pol}(h:Good ts)(he:Qa2 L E ts=some (P,us)):OkPol P:=by
 unfold Qa2 at he;simp only[Option.bind_eq_some_iff]at he;obtain⟨a,ha,b,hb,t3,h3,c,hc,t5,h5,d,hd,t7,h7,e,he',t10,h10,f,hf,t12,h12,hlast⟩:=he;cases hlast;have g1:=h.sf (Qeb h.wf (l:=a.1) (us:=a.2) ha);have g2:=g1.sf (Qfc g1.wf (b:=b.1) (us:=b.2) hb);have g3:=g2.sf (QaC g2.wf h3);have g4:=g3.sf (Qb6 g3.wf (s:=c.1) (us:=c.2) hc);have g5:=g4.sf (QaC g4.wf h5);have g6:=g5.sf (QcU g5.wf (s:=d.1) (us:=d.2) hd)
 have g7:=g6.sf (QaC g6.wf h7);have g8:=g7.sf (Qb6 g7.wf (s:=e.1) (us:=e.2) he');have g9:Good (Qds e.2):=by unfold Qds;split;exact g8.adv;exact g8
 have g10:=g9.sf (QaC g9.wf h10);have hcs:=QeK hE hO _ _ _ _ _ g10 (fun c hc=>by cases hc) hf;have hns:=QdS _ _ _ _ _ ha;refine⟨?_,?_,hcs.2,fun l hl=>absurd hl (QdT hc l),Qgu g5 hd,fun l hl=>absurd hl (QdT he' l)⟩
 ·have:=h.len;rw[List.length_nil]at hns;show a.1.length≤_;omega
 ·have:=g10.len;have h9:=hcs.1;rw[List.length_nil]at h9;show f.1.length≤_;omega
end Go.Proofs.Pg
namespace Go.Proofs.Pg
open Go.RowKit
attribute [local go_sem] Oper.semAt_some
theorem QhZ(s:ByteArray)(cap:Nat):((bytesRow s cap).toList.drop 0).take s.data.toList.length=Lib.byteCells s.data.toList:=by
 rw[List.drop_zero,bytesRow];simp[Lib.byteCells]
abbrev pZl:List Value:=[.bool false,.slice none 0 0,.int .i64 0,.string ⟨#[]⟩,.string ⟨#[]⟩,.slice none 0 0,.string ⟨#[]⟩,.int .i64 0,.string ⟨#[]⟩,.string ⟨#[]⟩,.slice none 0 0,.string ⟨#[]⟩,.int .i64 0,.string ⟨#[]⟩,.string ⟨#[]⟩,.slice none 0 0,.string ⟨#[]⟩,.slice none 0 0]
theorem ScsIs.extT{w w':World}{U S:Nat→Prop}{cs:List Value}{x:PSc}(h:ScsIs w U cs x)(he:Ext S w w')(hs:∀d c fr,w.heap[d]? =some (.cells c 56 fr)→¬S d):ScsIs w' U cs x:=by
 obtain⟨p,c,h1,h2⟩:=h;exact⟨p,c,h1,h2.extT he hs⟩
theorem PpIs.extT{w w':World}{U S:Nat→Prop}{cs:List Value}{P:PPol}(h:PpIs w U cs P)(he:Ext S w w')(hs:∀d c T fr,w.heap[d]? =some (.cells c T fr)→T≠62→¬S d):PpIs w' U cs P:=by
 obtain⟨pn,cn,c1,c2,c3,pc,cc,cells,h1,h2,h3,h4,h5,h6,h7⟩:=h;exact⟨pn,cn,c1,c2,c3,pc,cc,cells,h1,h2.extT he (fun d c fr q=>hs d c _ fr q (by decide)),h3.extT he (fun d c fr q=>hs d c _ fr q (by decide)),h4.extT he (fun d c fr q=>hs d c _ fr q (by decide)),h5.extT he (fun d c fr q=>hs d c _ fr q (by decide)),h6.extT he (fun d c fr q=>hs d c _ fr q (by decide)),h7.extT he (fun d c fr q=>hs d c _ fr q (by decide)) (fun d c fr q=>hs d c _ fr q (by decide))⟩
theorem ScsIs.mono{w:World}{U U':Nat→Prop}{cs:List Value}{x:PSc}(h:ScsIs w U cs x)(hu:∀d,U d→U' d):ScsIs w U' cs x:=by
 obtain⟨p,c,h1,h2⟩:=h;exact⟨p,c,h1,h2.mono hu⟩
theorem CnIs.mono{w:World}{U U':Nat→Prop}{cs:List Value}{l:List (Bool×PEx)}(h:CnIs w U cs l)(hu:∀d,U d→U' d):CnIs w U' cs l:=⟨h.1,fun i a hi=>⟨(h.2 i a hi).1,(h.2 i a hi).2.mono hu⟩⟩
theorem PpIs.mono{w:World}{U U':Nat→Prop}{cs:List Value}{P:PPol}(h:PpIs w U cs P)(hu:∀d,U d→U' d):PpIs w U' cs P:=by
 obtain⟨pn,cn,c1,c2,c3,pc,cc,cells,h1,h2,h3,h4,h5,h6,h7⟩:=h;exact⟨pn,cn,c1,c2,c3,pc,cc,cells,h1,h2.mono hu,h3.mono hu,h4.mono hu,h5.mono hu,h6.mono hu,h7.mono hu⟩
def WG(w:World):Prop:=Glob w∧(∃a,w.cell? ⟨0,0,none⟩=some (.iface 346 (.pointer (some a))))∧15≤w.heap.size
theorem PpIs.lit{w:World}{U:Nat→Prop}{cs:List Value}{P:PPol}(h:PpIs w U cs P):∃f pn nn cn k1 t1 i1 p1 n1 c1 y1 k2 t2 i2 p2 n2 c2 y2 k3 t3 i3 p3 n3 c3 y3 pc cc,cs.toArray=pCell f (.slice pn nn cn) k1 t1 i1 (.slice p1 n1 c1) y1 k2 t2 i2 (.slice p2 n2 c2) y2 k3 t3 i3 (.slice p3 n3 c3) y3 (.slice pc P.conds.length cc)∧∃cells,RwU w U 80 12 pc P.conds.length cells∧CnIs w U cells P.conds:=by
 obtain⟨pn,cn,s1,s2,s3,pc,cc,cells,rfl,-,⟨p1,d1,rfl,-⟩,⟨p2,d2,rfl,-⟩,⟨p3,d3,rfl,-⟩,h6,h7⟩:=h;exact⟨_,_,_,_,_,_,_,_,_,_,_,_,_,_,_,_,_,_,_,_,_,_,_,_,_,_,_,rfl,_,h6,h7⟩
theorem WG.below{w w':World}(h:WG w)(hb:Below w.heap.size w w'):WG w':=by
 obtain⟨h1,⟨a,h2⟩,h3⟩:=h;exact⟨h1.ext (S:=fun _=>False) (.below hb) (fun d h=>h.elim) h3,⟨a,(Ext.below (S:=fun _=>False) hb).cell (fun h=>h) h2⟩,Xe h3 hb.size⟩

end Go.Proofs.Pg
namespace Go.Proofs.Pg
open Go.RowKit Go.Proofs.Tryz
attribute [local go_sem] Oper.semAt_some
def SsRel(w0:World)(n:Nat)(v5:Value)(wr:World):Prop:=∃i,v5=.int .i64 ((i:Nat):Int)∧i≤n∧Below w0.heap.size w0 wr
def StRow(w:World)(p:Option Addr)(ks:List ByteArray):Prop:=∀i s,ks[i]? =some s→∃b off,p=some ⟨b,off,none⟩∧b<w.heap.size∧w.cell? ⟨b,off+i,none⟩=some (.string s)
theorem RwU.strings{w:World}{U:Nat→Prop}{p:Option Addr}{ks:List ByteArray}(h:RwU w U 9 1 p ks.length (ks.map .string)):StRow w p ks:=by
 intro i s hi;have hl:i<ks.length:=(List.getElem?_eq_some_iff.1 hi).1;obtain⟨b,off,c,fr,rfl,_,hb,hc⟩:=h.2.resolve_left (by omega);refine⟨b,off,rfl,Qad hb,Qaa hb ?_⟩;rw[hc i (by omega),List.getElem?_map,hi];rfl
theorem ss_c(ks:List ByteArray)(hn:ks.length≤30000000)(w:World)(p1 p2:Option Addr)(c1 c2:Nat)(h1:StRow w p1 ks)(h2:StRow w p2 ks) :
  Calls prog 33 #[.slice p1 ks.length c1,.slice p2 ks.length c2] w (fun e w'=>e=.returned (.bool true)∧Below w.heap.size w w'):=by
 have H1:=Hi h1;clear h1;have H2:=Hi h2;clear h2;go_enter func33,ntmps33
 go_upto_region 4 with(fail)
 have HQ:Hid (SsRel w ks.length (.int .i64 0) w):=Hi ⟨0,rfl,Nat.zero_le _,.refl _ _⟩
 go_loopw [5] (fun v5 wr=>SsRel w ks.length v5 wr) (fun v5 _=>ks.length-(intOf v5).toNat)
 case atStart=>exact HQ.out
 case round =>
  clear HQ;obtain⟨i,rfl,hi,hB⟩:=hrel;by_cases hlt:i<ks.length
  ·obtain⟨s,hs⟩:∃s,ks[i]? =some s:=⟨ks[i],by simp[hlt]⟩
   obtain⟨b1,o1,rfl,hb1,q1⟩:=H1.out i s hs;obtain⟨b2,o2,rfl,hb2,q2⟩:=H2.out i s hs;have r1:wr.cell? ⟨b1,o1+i,none⟩=some (.string s):=(Ext.below (S:=fun _=>False) hB).cell (fun h=>h) q1;have r2:wr.cell? ⟨b2,o2+i,none⟩=some (.string s):=(Ext.below (S:=fun _=>False) hB).cell (fun h=>h) q2;clear q1 q2 hb1 hb2 hs;have HB:=Hi hB;clear hB
   go_upto_region 6 with(fail)
   go_region
   go_wp2_with fail
   go_roundw
   case rel=>exact⟨i+1,by go_num,by omega,((Ext.below (S:=fun _=>False) HB.out).drew).toBelow (fun _ h=>h.elim) (Xb _)⟩
   case measure=>simp[intOf];omega
  ·obtain rfl:i=ks.length:=by omega
   go_wp2_with fail
   go_ret;exact⟨rfl,hB⟩
theorem named_c(n:Int)(w:World):Calls prog 31 #[.int .i64 n] w (fun e w'=>Below w.heap.size w w'∧∃b,e=.returned (.bool b)∧(n=1∨n=30→b=false)):=by
 go_enter func31,ntmps31;by_cases h1:n=2
 ·subst h1
  go_wp2_with fail
  go_ret;exact⟨.refl _ _,true,rfl,by omega⟩
 by_cases h2:n=13
 ·subst h2
  go_wp2_with fail
  go_ret;exact⟨.refl _ _,true,rfl,by omega⟩
 by_cases h3:n=16
 ·subst h3
  go_wp2_with fail
  go_ret;exact⟨.refl _ _,true,rfl,by omega⟩
 by_cases h4:n=17
 ·subst h4
  go_wp2_with fail
  go_ret;exact⟨.refl _ _,true,rfl,by omega⟩
 by_cases h5:n=23
 ·subst h5
  go_wp2_with fail
  go_ret;exact⟨.refl _ _,true,rfl,by omega⟩
 by_cases h6:n=25
 ·subst h6
  go_wp2_with fail
  go_ret;exact⟨.refl _ _,true,rfl,by omega⟩
 go_wp2_with fail
 go_ret;exact⟨.refl _ _,false,rfl,fun _=>rfl⟩
def SvRl(w0:World)(A B:Nat)(v5:Value)(wr:World):Prop:=v5=.int .i64 0∧Below w0.heap.size w0 wr∧wr.cell? ⟨A,5,none⟩=some (.slice none 0 0)∧wr.cell? ⟨B,5,none⟩=some (.slice none 0 0)
theorem sv_c(kd nn:Int)(vs vt:ByteArray)(w:World):Calls prog 32 #[.agg #[.int .i64 kd,.int .i64 nn,.string vs,.string vt,.slice none 0 0,.slice none 0 0],.agg #[.int .i64 kd,.int .i64 nn,.string vs,.string vt,.slice none 0 0,.slice none 0 0]] w (fun e w'=>e=.returned (.bool true)∧Below w.heap.size w w'):=by
 go_enter func32,ntmps32
 go_upto_region 1 with(fail)
 refine QaB fun w1 hw1=>?_
 have B1:Below w.heap.size w w1:=by rw[hw1];exact(Qab w _).alloc (by simp) _
 have hA:w1.heap[w.heap.size]? =some (.cells #[.int .i64 kd,.int .i64 nn,.string vs,.string vt,.slice none 0 0,.slice none 0 0] 30 (0,0)):=by rw[hw1];exact Qaf (Xa w _) _
 have hB:w1.heap[w.heap.size+1]? =some (.cells #[.int .i64 kd,.int .i64 nn,.string vs,.string vt,.slice none 0 0,.slice none 0 0] 30 (0,0)):=by rw[hw1];exact Qah (by simp) _
 clear hw1;have HB1:=Hi B1;clear B1;obtain⟨a0,a1,a2,a3,a4,a5⟩:=Cl6 hA rfl rfl rfl rfl rfl rfl;obtain⟨b0,b1,b2,b3,b4,b5⟩:=Cl6 hB rfl rfl rfl rfl rfl rfl;clear hA hB;by_cases h3:kd=3
 ·subst h3
  go_wp2_with fail
  go_ret;exact⟨rfl,HB1.out⟩
 by_cases h4:kd=4
 ·subst h4
  go_wp2_with fail
  go_ret;exact⟨rfl,HB1.out⟩
 have HLOOP:∀w2,Below w1.heap.size w1 w2→Hid (SvRl w2 w.heap.size (w.heap.size+1) (.int .i64 0) w2∧Below w.heap.size w w2):=fun w2 h=>Hi ⟨⟨rfl,.refl _ _,(Ext.below (S:=fun _=>False) h).cell (fun h=>h) a5,(Ext.below (S:=fun _=>False) h).cell (fun h=>h) b5⟩,HB1.out.trans (h.mono HB1.out.size)⟩
 have HL:=Hi HLOOP;clear HLOOP;by_cases h6:kd=6
 ·subst h6
  go_wp2_with fail
  refine(ss_c [] (by simp) w1 none none 0 0 (fun i s h=>by simp at h) (fun i s h=>by simp at h)).mono ?_;rintro e w2⟨rfl,B2⟩;have HQ:=HL.out w2 B2;clear B2 a0 a1 a2 a3 a4 a5 b0 b1 b2 b3 b4 b5 h3 h4
  go_wp2_with fail
  go_loopw [5] (fun v5 wr=>SvRl w2 w.heap.size (w.heap.size+1) v5 wr) (fun _ _=>0)
  case atStart=>exact HQ.out.1
  case round =>
   obtain⟨rfl,hB,q1,q2⟩:=hrel;have HB:=Hi hB;clear hB
   go_wp2_with fail
   go_ret;exact⟨rfl,HQ.out.2.trans (HB.out.mono HQ.out.2.size)⟩
 by_cases h5:kd=5
 ·subst h5
  have HQ:=HL.out w1 (.refl _ _)
  go_upto_region 13 with(fail)
  go_loopw [5] (fun v5 wr=>SvRl w1 w.heap.size (w.heap.size+1) v5 wr) (fun _ _=>0)
  case atStart=>exact HQ.out.1
  case round =>
   clear a0 a1 a2 a3 a4 a5 b0 b1 b2 b3 b4 b5 h3 h4 h6;obtain⟨rfl,hB,q1,q2⟩:=hrel;have HB:=Hi hB;clear hB
   go_wp2_with fail
   go_ret;exact⟨rfl,HQ.out.2.trans (HB.out.mono HQ.out.2.size)⟩
 go_wp2_with fail
 go_ret;exact⟨rfl,HB1.out⟩
def QiT(n i:Nat)(s:ByteArray):Bool:=s.size != 0||i==0||i+1==n
def Qix(n:Nat):Nat→List ByteArray→List ByteArray
 | _,[]=>[]
 | i,s::l=>if QiT n i s=true then s::Qix n (i+1) l else Qix n (i+1) l
def Qiv(ks:List ByteArray):List ByteArray:=if Qix ks.length 0 ks=[]then [⟨#[]⟩]else Qix ks.length 0 ks
theorem Qi5(n:Nat):∀(i:Nat)(l:List ByteArray),(Qix n i l).length≤l.length
 | _,[]=>Xb _
 | i,s::l=>by
  have:=Qi5 n (i+1) l;rw[Qix];split
  ·rw[List.length_cons,List.length_cons];omega
  ·rw[List.length_cons];omega
theorem QiU{ks:List ByteArray}(h:ks.length≤29000000):(Qiv ks).length≤30000000:=by
 unfold Qiv;have:=Qi5 ks.length 0 ks;split
 ·simp
 ·omega
theorem QiI{n i:Nat}{ks:List ByteArray}{s:ByteArray}(h:ks[i]? =some s):Qix n i (ks.drop i)=(if QiT n i s=true then [s]else [])++Qix n (i+1) (ks.drop (i+1)):=by
 obtain⟨hi,rfl⟩:=List.getElem?_eq_some_iff.1 h;rw[List.drop_eq_getElem_cons hi,Qix];split<;>rfl
def QiV(w0:World)(ks:List ByteArray)(v3 v4:Value)(wr:World):Prop :=
 ∃i acc,v4=.int .i64 ((i:Nat):Int)∧i≤ks.length∧wr.ownsRow w0.heap.size 9 1 v3 acc.length (acc.map .string)∧Below w0.heap.size w0 wr∧acc++Qix ks.length i (ks.drop i)=Qix ks.length 0 ks∧acc.length≤i
def BrP(w:World)(ks:List ByteArray)(e:Ending)(w':World):Prop:=Below w.heap.size w w'∧∃p c,e=.returned (.slice p (Qiv ks).length c)∧StRow w' p (Qiv ks)
theorem own_st{w:World}{B n c:Nat}{p:Option Addr}{ks:List ByteArray}(h:w.ownsRow B 9 1 (.slice p n c) ks.length (ks.map .string)):n=ks.length∧StRow w p ks:=by
 obtain⟨p',c',e,hr⟩:=RwU.own h;cases e;exact⟨rfl,hr.strings⟩
theorem bare_c(ks:List ByteArray)(hn:ks.length≤29000000)(w:World)(p:Option Addr)(c:Nat)(h1:StRow w p ks):Calls prog 34 #[.slice p ks.length c] w (BrP w ks):=by
 have H1:=Hi h1;clear h1;go_enter func34,ntmps34
 go_upto_region 3 with(fail)
 have HQ:Hid (QiV w ks (.slice none 0 0) (.int .i64 0) w):=Hi ⟨0,[],rfl,Nat.zero_le _,⟨rfl,.inl ⟨rfl,rfl⟩⟩,.refl _ _,by simp,Xb _⟩
 go_loopw [3,4] (fun v3 v4 wr=>QiV w ks v3 v4 wr) (fun _ v4 _=>ks.length-(intOf v4).toNat)
 case atStart=>exact HQ.out
 case round =>
  clear HQ;obtain⟨i,acc,rfl,hi,hO,hBl,hacc,hle⟩:=hrel;obtain⟨p3,c3,rfl,_⟩:=RwU.own hO;have HO:=Hi (Xc hO hBl);clear hO hBl;have hwz:=HO.out.2.size;have HA:=Hi hacc;clear hacc;by_cases hlt:i<ks.length
  ·obtain⟨s,hs⟩:∃s,ks[i]? =some s:=⟨ks[i],by simp[hlt]⟩
   obtain⟨b1,o1,rfl,hb1,q1⟩:=H1.out i s hs;have r1:wr.cell? ⟨b1,o1+i,none⟩=some (.string s):=(Ext.below (S:=fun _=>False) HO.out.2).cell (fun h=>h) q1;have HST:=Hi (QiI (n:=ks.length) hs);clear q1 hb1 hs;have hbb:ks.length-1<9223372036854775807:=by omega
   have hks:QiT ks.length i s=(s.size != 0||i==0||i+1==ks.length):=rfl;have HNY:(QiT ks.length i s=true)→Hid (∀v7 w7,w7.ownsRow w.heap.size 9 1 v7 (acc.length+1) (acc.map .string++[.string s])→Below w.heap.size w w7→QiV w ks v7 (.int .i64 ((i:Int)+1)) w7):=fun hk=>Hi fun v7 w7 ho hb=>⟨i+1,acc++[s],by go_num,by omega,by simpa using ho,hb,by rw[←HA.out,HST.out,if_pos hk];simp,by simp;omega⟩
   have HNN:(QiT ks.length i s=false)→Hid (QiV w ks (.slice p3 acc.length c3) (.int .i64 ((i:Int)+1)) wr):=fun hk=>Hi ⟨i+1,acc,by go_num,by omega,HO.out.1,HO.out.2,by rw[←HA.out,HST.out,hk];simp,by omega⟩
   clear HST HA;by_cases hz:s=⟨#[]⟩
   ·subst hz
    by_cases h0:i=0
    ·subst h0
     have r0:wr.cell? ⟨b1,o1,none⟩=some (.string ⟨#[]⟩):=by rw[Nat.add_zero]at r1;exact r1
     have HN:Hid (∀v7 w7,w7.ownsRow w.heap.size 9 1 v7 (acc.length+1) (acc.map .string++[.string ⟨#[]⟩])→Below w.heap.size w w7→QiV w ks v7 (.int .i64 1) w7):=HNY (by rw[hks];simp);clear HNY HNN hks r1
     go_wp2_with(at_builtin;refine appG sl27 rfl _ _ rfl w.heap.size _ _ _ rfl (Qbs HO.out.1 _) _ [.string ⟨#[]⟩] rfl rfl (QaD (Qaa (Xa wr _) rfl)) (fun v hv=>by rw[List.mem_singleton.1 hv];rfl) (by unfold maxLen;omega) (by omega) (by simp;omega) ?_)
     intro v7 w7 hO9 hg9 _;have HEND:=Hi (HN.out v7 w7 hO9 (HO.out.2.trans (Qb7 ((Qab wr (.cells #[.string ⟨#[]⟩] 9)).mono (by omega)) (by omega) (Qbs HO.out.1 (.cells #[.string ⟨#[]⟩] 9)) hg9)));clear hO9 hg9
     go_wp2_with fail
     go_roundw
     case rel=>exact HEND.out
     case measure=>simp[intOf];omega
    ·have f0:¬(i:Int)=0:=by omega
     by_cases h1:i+1=ks.length
     ·have HN:=HNY (by rw[hks,h1];simp)
      have f1:((i:Int)==(ks.length:Int)-1)=true:=by simp;omega
      clear HNY HNN hks h0 h1
      go_wp2_with(at_builtin;refine appG sl27 rfl _ _ rfl w.heap.size _ _ _ rfl (Qbs HO.out.1 _) _ [.string ⟨#[]⟩] rfl rfl (QaD (Qaa (Xa wr _) rfl)) (fun v hv=>by rw[List.mem_singleton.1 hv];rfl) (by unfold maxLen;omega) (by omega) (by simp;omega) ?_)
      intro v7 w7 hO9 hg9 _;have HEND:=Hi (HN.out v7 w7 hO9 (HO.out.2.trans (Qb7 ((Qab wr (.cells #[.string ⟨#[]⟩] 9)).mono (by omega)) (by omega) (Qbs HO.out.1 (.cells #[.string ⟨#[]⟩] 9)) hg9)));clear hO9 hg9
      go_wp2_with fail
      go_roundw
      case rel=>exact HEND.out
      case measure=>simp[intOf];omega
     ·have HN:=HNN (by rw[hks];simp[h0,h1];rfl)
      have f1:((i:Int)==(ks.length:Int)-1)=false:=by simp;omega
      clear HNY HNN hks h0 h1
      go_wp2_with fail
      go_roundw
      case rel=>exact HN.out
      case measure=>simp[intOf];omega
   ·have hne:¬(s.toList==[])=true:=fun h=>hz (by
     rw[beq_iff_eq,ByteArray.toList_eq]at h;exact ByteArray.ext (Array.toList_inj.1 h))
    have HN:=HNY (by
     rw[hks];have:s.size≠0:=fun h=>hz (by
      refine ByteArray.ext (Array.toList_inj.1 ?_);exact List.eq_nil_of_length_eq_zero (by simpa using h))
     simp[this])
    clear HNY HNN hks hz
    go_wp2_with(at_builtin;refine appG sl27 rfl _ _ rfl w.heap.size _ _ _ rfl (Qbs HO.out.1 _) _ [.string s] rfl rfl (QaD (Qaa (Xa wr _) rfl)) (fun v hv=>by rw[List.mem_singleton.1 hv];rfl) (by unfold maxLen;omega) (by omega) (by simp;omega) ?_)
    intro v7 w7 hO9 hg9 _;have HEND:=Hi (HN.out v7 w7 hO9 (HO.out.2.trans (Qb7 ((Qab wr (.cells #[.string s] 9)).mono (by omega)) (by omega) (Qbs HO.out.1 (.cells #[.string s] 9)) hg9)));clear hO9 hg9
    go_wp2_with fail
    go_roundw
    case rel=>exact HEND.out
    case measure=>simp[intOf];omega
  ·obtain rfl:i=ks.length:=by omega
   have HE:Hid (acc=Qix ks.length 0 ks):=Hi (by have:=HA.out;rw[List.drop_eq_nil_of_le (Xb _)]at this;simpa [Qix]using this);clear HA;by_cases ha:acc=[]
   ·have hl0:(acc.length:Int)=0:=by rw[ha];rfl
    have HM:Hid (Qiv ks=[⟨#[]⟩]):=Hi (by unfold Qiv;rw[if_pos (by rw[←HE.out];exact ha)]);clear ha
    go_wp2_with fail
    go_ret;have hb:=HO.out.2.trans ((Qab wr (.cells #[.string ⟨#[]⟩] 9)).mono HO.out.2.size);refine⟨hb,some ⟨wr.heap.size,0,none⟩,1,by rw[HM.out];rfl,fun i s h=>?_⟩;rw[HM.out]at h;have hi0:i=0:=by have:=(List.getElem?_eq_some_iff.1 h).1;simp at this;exact this
    subst hi0;simp at h;subst h;exact⟨_,0,rfl,by simp,Qaa (Xa wr _) rfl⟩
   ·have hl0:¬(acc.length:Int)=0:=by
     have:=List.length_pos_iff.2 ha;omega
    have HM:Hid (Qiv ks=acc):=Hi (by unfold Qiv;rw[if_neg (by rw[←HE.out];exact ha),HE.out]);clear ha
    go_wp2_with fail
    go_ret;exact⟨HO.out.2,p3,c3,by rw[HM.out];rfl,by rw[HM.out];exact(own_st HO.out.1).2⟩
end Go.Proofs.Pg
