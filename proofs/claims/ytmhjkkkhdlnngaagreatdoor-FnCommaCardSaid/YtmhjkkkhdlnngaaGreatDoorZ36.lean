/- FnComma: a last comma changes nothing; for every world. Part 36. -/
import Derived.Test.YtmhjkkkhdlnngaaGreatDoorZ35
set_option linter.all false
set_option maxRecDepth 100000
set_option maxHeartbeats 40000000
namespace Go.Proofs.Pg
open Go.RowKit
attribute [local go_sem] Oper.semAt_some
def QbG:List UInt8→Nat
 | []=>0
 | c::l=>if c=42 then QbG l+1 else 0
def ppL:Nat→List (Option ByteArray)→List UInt8→Option (List (Option ByteArray))
 | 0,_,_=>none
 | f+1,acc,l=>if l=[]then some acc else match uqM true (l.drop (QbG l))with
  | none=>none
  | some r=>ppL f (acc++List.replicate (QbG l) none++[some ⟨r.1.toArray⟩]) ((l.drop (QbG l)).drop r.2)
def ppM(l:List UInt8):Option (List (Option ByteArray)):=(ppL (l.length+1) [] l).map fun c=>if c=[]then [some ⟨#[]⟩]else c
def patM(s:ByteArray):Option Pats:=(ppM (Qdn s).data.toList).map npM
theorem QfE:∀l,QbG l≤l.length
 | []=>Nat.le_refl _
 | c::l=>by
  have:=QfE l;unfold QbG;rw[List.length_cons];split<;>omega
theorem QdO:∀l:List UInt8,QbG (l.drop (QbG l))=0
 | []=>rfl
 | c::l=>by
  by_cases h:c=42
  ·simp only[QbG,h,if_true,List.drop_succ_cons];exact QdO l
  ·simp[QbG,h]
theorem QeE(k:Nat)(l:List UInt8):QbG (List.replicate k 42++l)=k+QbG l:=by
 induction k with
 | zero=>simp
 | succ k ih=>rw[List.replicate_succ,List.cons_append];show(if(42:UInt8)=42 then QbG (List.replicate k 42++l)+1 else 0)=_;rw[if_pos rfl,ih];omega
theorem rep_drop(k:Nat)(l:List UInt8):(List.replicate k 42++l).drop k=l:=by
 rw[List.drop_append,List.drop_eq_nil_of_le (by simp),List.length_replicate,Nat.sub_self];rfl
theorem decN_42{n b0 b1 b2 b3:Nat}(h:(Lib.decodeN n b0 b1 b2 b3).1=42):b0=42:=by
 unfold Lib.decodeN at h
 repeat' split at h
 all_goals first | exact h | (simp only at h;omega) | cases h
theorem nrX_42{l:List UInt8}{z:Nat}(h:nrX l 0=some (42,z)):l.getD 0 0=42:=by
 unfold nrX at h;split at h
 ·rename_i hi
  unfold nrM at h;split at h
  ·cases h
  ·have h1:=congrArg Prod.fst (Option.some.inj h)
   simp only[List.drop_zero]at h1;unfold dec at h1;rw[if_neg (by omega)]at h1;have:=decN_42 h1;exact UInt8.toNat_inj.1 (by simpa using this)
 ·cases h
theorem Qbx{star:Bool}{l:List UInt8}:∀(f:Nat)(acc:List UInt8)(i:Nat)(r:List UInt8×Nat),uqL star l f acc i=some r→i≤r.2
 | 0,_,_,_,h=>by cases h
 | f+1,acc,i,r,h=>by
  by_cases hi:i<l.length
  ·cases hn:nrX l i with
   | none=>rw[Qem hi hn]at h;cases h
   | some a =>
    have ha:=QbF hn;obtain⟨a1,a2⟩:=a;simp only at ha;rw[uqL,if_pos hi,hn]at h;simp only at h;split at h
    ·cases h;simp only;omega
    ·split at h
     ·split at h
      ·cases h
      ·rename_i b hb
       have hb:=QbF hb;split at h
       ·have:=Qbx f _ _ _ h;omega
       ·split at h
        ·split at h
         ·cases h
         ·rename_i r' hr
          have hr:=Qek hr;have:=Qbx f _ _ _ h;omega
        ·split at h
         ·split at h
          ·cases h
          ·rename_i r' hr
           have hr:=Qel hr;have:=Qbx f _ _ _ h;omega
         ·split at h
          ·have:=Qbx f _ _ _ h;omega
          ·cases h
     ·have:=Qbx f _ _ _ h;omega
  ·rw[QhE hi]at h;cases h;exact Nat.le_refl _
theorem QhG{l:List UInt8}{r:List UInt8×Nat}(h0:QbG l=0)(hl:l≠[])(h:uqM true l=some r):0<r.2:=by
 unfold uqM at h;have hi:0<l.length:=List.length_pos_iff.2 hl;cases hn:nrX l 0 with
 | none=>rw[Qem hi hn]at h;cases h
 | some a =>
  have ha:=QbF hn;obtain⟨a1,a2⟩:=a;simp only at ha;have h42:a1≠42:=by
   rintro rfl;have:=nrX_42 hn;cases l with
   | nil=>exact hl rfl
   | cons c l =>
    simp at this;subst this;simp[QbG]at h0
  rw[uqL,if_pos hi,hn]at h;simp only at h;rw[if_neg (fun k=>h42 k.2)]at h;split at h
  ·split at h
   ·cases h
   ·rename_i b hb
    have hb:=QbF hb;split at h
    ·have:=Qbx _ _ _ _ h;omega
    ·split at h
     ·split at h
      ·cases h
      ·rename_i r' hr
       have hr:=Qek hr;have:=Qbx _ _ _ _ h;omega
     ·split at h
      ·split at h
       ·cases h
       ·rename_i r' hr
        have hr:=Qel hr;have:=Qbx _ _ _ _ h;omega
      ·split at h
       ·have:=Qbx _ _ _ _ h;omega
       ·cases h
  ·have:=Qbx _ _ _ _ h;omega
def BufIs(w:World)(B:Nat)(s:Value)(l:List UInt8):Prop :=
 ∃b o c,s=.slice (some ⟨b,o,none⟩) l.length c∧l.length≤c∧c≤maxLen∧BytesAt w b o l∧2<b∧b<B
def QcH:Value→Nat
 | .slice _ n _=>n
 | _=>0
def Qd7(l:List (Option ByteArray)):List Value:=l.map Qfl
def PpOut(w0:World)(R:Option (List (Option ByteArray)))(s4 s5:Value)(wr:World):Prop :=
 ∃f acc l,ppL f acc l=R∧l.length<f∧BufIs wr (w0.heap.size+2) s4 l∧l.length≤1000000∧wr.ownsRow (w0.heap.size+2) 20 1 s5 acc.length (Qd7 acc)∧acc.length+2*l.length≤2000000∧(∀s,some s∈acc→s.size≤1000000)∧Below w0.heap.size w0 wr∧wr.heap[w0.heap.size]? =some (.cells #[.slice none 0 0] 197 (0,0))∧w0.heap.size+2≤wr.heap.size
def PpIn(w0:World)(acc0:List (Option ByteArray))(l0:List UInt8)(s4 s5:Value)(wr:World):Prop :=
 ∃k l,l0=List.replicate k 42++l∧k≤QbG l0∧BufIs wr (w0.heap.size+2) s4 l∧wr.ownsRow (w0.heap.size+2) 20 1 s5 (acc0.length+k) (Qd7 (acc0++List.replicate k none))∧Below w0.heap.size w0 wr∧wr.heap[w0.heap.size]? =some (.cells #[.slice none 0 0] 197 (0,0))∧w0.heap.size+2≤wr.heap.size
theorem Qfm{W:World}{fn:Func}{R:Nat}{v err:Value}{Q:Ending→World→Prop}(a:Act)(s s2:Nat)(hf:fn.results=#[.cell s 197,.tmp s2])(ha:a.tmps.getD s undef=.pointer (some ⟨R,0,none⟩))(he:a.tmps.getD s2 undef=err)(had:a.defers=[])
  (r:W.heap[R]? =some (.cells #[v] 197 (0,0)))(h:Q (.returned (.tuple #[.agg #[v],err])) W):bodyPost Tryz.prog fn Q Exit.ret a W:=by
 refine bodyPost_ret (QaH (a:=s) (t:=197) hf _ ⟨R,0,none⟩ ha _ _ (QcP _ _ _ _ (by kernel_rfl) (by kernel_rfl) (Qaa (o:=0) r rfl))) had ?_;rw[he];exact h
theorem pat_c(s:ByteArray)(w:World)(hG:Glob w)(h15:15≤w.heap.size)(hz:s.size≤1000000)(base:Nat)(hbase:base≤w.heap.size):Calls Tryz.prog 235 #[.string (Qdn s)] w (PatV base w (patM s)):=by
 have hlen:(Qdn s).data.toList.length≤1000000:=by
  have h1:=Qeo (Lib.trimPrefix s.data.toList [34]) [34];have h2:=Qdl s.data.toList [34];have h3:s.data.toList.length=s.size:=rfl;show(Lib.trimSuffix (Lib.trimPrefix s.data.toList [34]) [34]).length≤1000000;omega
 have HP:Hid (patM s=(ppM (Qdn s).data.toList).map npM):=Hi rfl;generalize patM s=Res at *;generalize Qdn s=t at *;have hts:t.size≤1000000:=hlen;go_enter Tryz.func235,Tryz.ntmps235
 go_upto_region 3 with(fail)
 refine Qba fun w1 hw1=>?_
 have hcg:=grownCap_ge (w.alloc (.cells #[.slice none 0 0] 197)) t.size 0 5;have hcm:=grownCap_le_maxLen (w.alloc (.cells #[.slice none 0 0] 197)) t.size 0 5 (by unfold maxLen;omega);have B1:Below w.heap.size w w1:=by rw[hw1];exact((Ext.below (S:=fun _=>False) (((Qab w _).alloc (by simp) _))).drew).toBelow (fun _ h=>h.elim) (Nat.le_refl _)
 have hz1:w1.heap.size=w.heap.size+2:=by rw[hw1];simp
 have hr1:w1.heap[w.heap.size]? =some (.cells #[.slice none 0 0] 197 (0,0)):=by rw[hw1];exact Qaf (heap_alloc_new w _) _
 have hb1:BytesAt w1 (w.heap.size+1) 0 t.data.toList:=by
  rw[hw1];exact QeC (w.alloc _) t _ _ _ (by simp)
 clear hw1;generalize grownCap (w.alloc (.cells #[.slice none 0 0] 197)) t.size 0 5=cp at *;have hsz:t.size=t.data.toList.length:=rfl;rw[hsz]at hcg ⊢;generalize t.data.toList=l0 at *;clear hsz hts;have HT:=Hi hG.tabs;clear hG;have HQ:Hid (PpOut w (ppL (l0.length+1) [] l0) (.slice (some ⟨w.heap.size+1,0,none⟩) l0.length cp) (.slice none 0 0) w1):=Hi ⟨l0.length+1,[],l0,rfl,Nat.lt_succ_self _,⟨_,_,_,rfl,hcg,hcm,hb1,by omega,by omega⟩,hlen,⟨rfl,.inl ⟨rfl,rfl⟩⟩,by simp;omega,fun s h=>by simp at h,B1,hr1,by omega⟩
 clear hb1 hr1 B1 hcg hcm
 go_loopw [4,5] (fun s4 s5 wr=>PpOut w (ppL (l0.length+1) [] l0) s4 s5 wr) (fun s4 _ _=>QcH s4)
 case atStart=>exact HQ.out
 case round =>
  clear HQ;obtain⟨f,acc,l,hpp,hlf,hbuf,hll,hO,hal,hsz,hB,hR,hws⟩:=hrel;obtain⟨f,rfl⟩:∃g,f=g+1:=⟨f-1,by omega⟩
  have HPP:=Hi hpp;clear hpp;have HO:=Hi hO;clear hO;have HSZ:=Hi hsz;clear hsz;have HB:=Hi hB;clear hB;have HR:=Hi hR;clear hR;have HBUF:=Hi hbuf;by_cases hlne:l=[]
  ·subst hlne
   obtain⟨b,o,c,rfl,hlc,hcm,hby,hb2,hbB⟩:=hbuf;have HPP2:Hid (some acc=ppL (l0.length+1) [] l0):=Hi (by have:=HPP.out;rw[ppL,if_pos rfl]at this;exact this);clear HBUF HPP hby
   have hfin:∀(cs:List (Option ByteArray))(w2:World)(v:Value),Res=some (npM cs)→w2.ownsRow (w.heap.size+2) 20 1 v cs.length (Qd7 cs)→cs.length≤10000000→(∀s,some s∈cs→s.size≤1000000)→Below w.heap.size w w2→w2.heap[w.heap.size]? =some (.cells #[.slice none 0 0] 197 (0,0)) →
     Calls Tryz.prog 242 #[v] w2 fun e w3=>∃p c,e=.returned (.agg #[.slice p (npM cs).length c])∧w3.cell? ⟨w.heap.size,0,none⟩=some (.slice none 0 0)∧w3.frozen? ⟨w.heap.size,0,none⟩=false∧Hid (w3.heap[w.heap.size]? =some (.cells #[.slice none 0 0] 197 (0,0))∧PatV base w Res (.returned (.tuple #[.agg #[.slice p (npM cs).length c],.nilIface])) (w3.setCell ⟨w.heap.size,0,none⟩ (.slice p (npM cs).length c))):=by
    intro cs w2 v hres ho hcs hss hb2' hr2;refine(newPat_c w2 _ v cs ho hcs hss).mono ?_;rintro e w3⟨B3,p,c,rfl,hrow⟩;have hr3:=Bk B3 hr2;refine⟨p,c,rfl,Qaa hr3 rfl,Qae hr3 0,Hi ⟨hr3,Qby (d:=w.heap.size) (o:=0) (hb2'.trans (B3.mono hb2'.size)) (Nat.le_refl _),?_⟩⟩;rw[hres];refine⟨p,c,rfl,?_⟩;exact(hrow.ext (.inr (.inr rfl)) (S:=(·=w.heap.size)) ((Ext.refl (·=w.heap.size) w3).set (p:=⟨w.heap.size,0,none⟩) (.inl rfl) _) (fun d hd=>.inl (by subst hd;exact Qad hr2))).mono (Nat.le_trans hbase hb2'.size)
   have HFIN:=Hi hfin;clear hfin;by_cases hac:acc=[]
   ·subst hac
    obtain⟨p5,c5,rfl,_⟩:=RwU.own HO.out;have BA:Below wr.heap.size wr (wr.alloc (.cells #[.iface 131 (.string ⟨#[]⟩)] 20)):=Qab wr _;have hnew:=heap_alloc_new wr (.cells #[.iface 131 (.string ⟨#[]⟩)] 20);have hOa:=Qaj (S:=fun _=>False) HO.out (.below BA) (fun _ h=>h.elim);have hRa:=(BA.block _ (Qad HR.out)).trans HR.out;have hBa:=HB.out.trans (BA.mono HB.out.size);have HAll:=Hi (And.intro hOa (And.intro hnew (And.intro hRa hBa)))
    clear hOa hnew hRa hBa BA;have HN:Hid (Res=some (npM [some ⟨#[]⟩])):=Hi (by rw[HP.out];unfold ppM;rw[←HPP2.out];rfl)
    go_wp2_with(at_builtin;refine appG sl321 rfl _ _ rfl (w.heap.size+2) _ _ _ rfl HAll.out.1 _ [.iface 131 (.string ⟨#[]⟩)] rfl rfl (fun j u hj=>Qaa HAll.out.2.1 (by simpa using hj)) (fun v hv=>by rw[List.mem_singleton.1 hv];rfl) (by unfold maxLen;simp) (by simp) (by simp;omega) ?_)
    intro v9 w9 hO9 hg9 _;have hB9:Below w.heap.size w w9:=(Ext.grow (S:=fun _=>False) (.below HAll.out.2.2.2) HAll.out.1 hg9 (by omega)).toBelow (fun _ h=>h.elim) (Nat.le_refl _);have hR9:=QaL HAll.out.2.2.1 HAll.out.1 hg9 (by omega);have HC:=Hi (HFIN.out [some ⟨#[]⟩] w9 v9 HN.out hO9 (by decide) (fun s hs=>by simp at hs;subst hs;exact Nat.zero_le _) hB9 hR9);clear hO9 hB9 hR9 hg9
    go_wp2_with fail
    refine HC.out.mono ?_;rintro e w3⟨p,c,rfl,hc3,hf3,HE⟩
    go_wp2_with fail
    exact Qfm _ 2 3 (by kernel_rfl) rfl rfl rfl (Qac (o:=0) HE.out.1 _) HE.out.2
   ·have hap:0<acc.length:=List.length_pos_iff.2 hac
    have e0:((acc.length:Int)==0)=false:=by simp;exact hac
    have HN:Hid (Res=some (npM acc)):=Hi (by rw[HP.out];unfold ppM;rw[←HPP2.out];simp[hac]);obtain⟨p5,c5,rfl,_⟩:=RwU.own HO.out;have HC:=Hi (HFIN.out acc wr _ HN.out HO.out (by omega) HSZ.out HB.out HR.out);clear hac
    go_wp2_with fail
    refine HC.out.mono ?_;rintro e w3⟨p,c,rfl,hc3,hf3,HE⟩
    go_wp2_with fail
    exact Qfm _ 2 3 (by kernel_rfl) rfl rfl rfl (Qac (o:=0) HE.out.1 _) HE.out.2
  ·obtain⟨b,o,c,rfl,hlc,hcm,hby,hb2,hbB⟩:=hbuf
   clear hby
   have hpos:0<l.length:=List.length_pos_iff.2 hlne
   go_wp2_with fail
   have HQ:Hid (PpIn w acc l (.slice (some ⟨b,o,none⟩) l.length c) u5 wr):=Hi ⟨0,l,rfl,Nat.zero_le _,HBUF.out,by simpa using HO.out,HB.out,HR.out,hws⟩
   go_loopw [4,5] (fun s4 s5 wr=>PpIn w acc l s4 s5 wr) (fun s4 _ _=>QcH s4)
   case atStart=>exact HQ.out
   case round =>
    clear HQ HBUF HO HB HR hb2 hbB hlc hcm hws;obtain⟨k,l',hl0,hks,hbuf,hO,hB,hR,hws⟩:=hrel;have hkl:k+l'.length=l.length:=by rw[hl0];simp
    have HL0:=Hi hl0;clear hl0;have HO:=Hi hO;clear hO;have HB:=Hi hB;clear hB;have HR:=Hi hR;clear hR;have HBUF:=Hi hbuf;obtain⟨b,o,c,rfl,hlc,hcm,hby,hb2,hbB⟩:=hbuf;have HBY:=Hi hby;clear hby
    by_cases hst:∃l2,l'=42::l2
    ·obtain⟨l2,rfl⟩:=hst
     have c42:=HBY.out 0 (by simp);rw[Nat.add_zero]at c42;have c42':wr.cell? ⟨b,o,none⟩=some (.int .u8 42):=c42;clear c42;have hp2:0<(42::l2:List UInt8).length:=by simp
     have hlen2:(42::l2:List UInt8).length=l2.length+1:=by simp
     have HBY2:Hid (BytesAt wr b (o+1) l2):=Hi (HBY.out.drop 1);have hacc:acc.length+k≤2000000:=by omega
     obtain⟨p5,c5,rfl,_⟩:=RwU.own HO.out;have BA:Below wr.heap.size wr (wr.alloc (.cells #[.iface 388 (.agg #[])] 20)):=Qab wr _;have hnew:=heap_alloc_new wr (.cells #[.iface 388 (.agg #[])] 20);have hOa:=Qaj (S:=fun _=>False) HO.out (.below BA) (fun _ h=>h.elim);have hRa:=(BA.block _ (Qad HR.out)).trans HR.out;have hBa:=HB.out.trans (BA.mono HB.out.size);have HAll:=Hi (And.intro hOa (And.intro hnew (And.intro hRa hBa)))
     clear hOa hnew hRa hBa BA;have HEq:Hid (Qd7 (acc++List.replicate k none)++[.iface 388 (.agg #[])]=Qd7 (acc++List.replicate (k+1) none)):=Hi (by rw[List.replicate_succ',←List.append_assoc,Qd7,Qd7,List.map_append (l₁:=acc++_)];rfl);have hk1:k+1≤QbG l:=by rw[HL0.out,QeE];show k+1≤k+(if(42:UInt8)=42 then QbG l2+1 else 0);rw[if_pos rfl];omega
     have HL1:Hid (l=List.replicate (k+1) 42++l2):=Hi (by rw[HL0.out,List.replicate_succ'];simp);have hsz5:=HB.out.size;by_cases g1:c=1
     ·subst g1
      have h20:l2=[]:=by cases l2 with | nil=>rfl | cons a b=>simp at hlc
      subst h20
      go_wp2_with(at_builtin;refine appG sl321 rfl _ _ rfl (w.heap.size+2) _ _ _ rfl HAll.out.1 _ [.iface 388 (.agg #[])] rfl rfl (fun j u hj=>Qaa HAll.out.2.1 (by simpa using hj)) (fun v hv=>by rw[List.mem_singleton.1 hv];rfl) (by unfold maxLen;omega) (by omega) (by simp;omega) ?_)
      intro v9 w9 hO9 hg9 _;have hB9:Below w.heap.size w w9:=(Ext.grow (S:=fun _=>False) (.below HAll.out.2.2.2) HAll.out.1 hg9 (by omega)).toBelow (fun _ h=>h.elim) (Nat.le_refl _);have hR9:=QaL HAll.out.2.2.1 HAll.out.1 hg9 (by omega);have hz9:=hg9.size;rw[HEq.out]at hO9;have HEND:Hid (PpIn w acc l (.slice (some ⟨b,o,none⟩) 0 0) v9 w9):=Hi ⟨k+1,[],HL1.out,hk1,⟨b,o,0,rfl,Nat.le_refl _,Nat.zero_le _,fun j hj=>by simp at hj,hb2,hbB⟩,by rw[←Nat.add_assoc];exact hO9,hB9,hR9,by simp at hz9;omega⟩
      clear hO9 hB9 hR9 hg9 hz9
      go_wp2_with fail
      go_roundw
      case rel=>exact HEND.out
      case measure=>simp[QcH]
     ·go_wp2_with(at_builtin;refine appG sl321 rfl _ _ rfl (w.heap.size+2) _ _ _ rfl HAll.out.1 _ [.iface 388 (.agg #[])] rfl rfl (fun j u hj=>Qaa HAll.out.2.1 (by simpa using hj)) (fun v hv=>by rw[List.mem_singleton.1 hv];rfl) (by unfold maxLen;omega) (by omega) (by simp;omega) ?_)
      intro v9 w9 hO9 hg9 _;have hB9:Below w.heap.size w w9:=(Ext.grow (S:=fun _=>False) (.below HAll.out.2.2.2) HAll.out.1 hg9 (by omega)).toBelow (fun _ h=>h.elim) (Nat.le_refl _);have hR9:=QaL HAll.out.2.2.1 HAll.out.1 hg9 (by omega);have hz9:=hg9.size;rw[HEq.out]at hO9;have hby9:BytesAt w9 b (o+1) l2:=by
       intro j hj;refine(QdX (p:=⟨b,o+1+j,none⟩) ?_).trans (HBY2.out j hj);have hbl:=QcN (HBY2.out j hj);simp only at hbl ⊢;rw[hg9.block b (by simp;omega) (fun e=>by have:=(Qa5 HAll.out.1 e.symm).1;omega),Below.heap_alloc _ _ _ hbl]
      have HEND:Hid (PpIn w acc l (.slice (some ⟨b,o+1,none⟩) l2.length (c-1)) v9 w9):=Hi ⟨k+1,l2,HL1.out,hk1,⟨b,o+1,c-1,rfl,by omega,by omega,hby9,hb2,hbB⟩,by rw[←Nat.add_assoc];exact hO9,hB9,hR9,by simp at hz9;omega⟩;clear hO9 hB9 hR9 hg9 hz9 hby9
      go_wp2_with fail
      go_roundw
      case rel=>exact HEND.out
      case measure=>simp[QcH]
    ·have hs0:QbG l'=0:=by
      cases l' with
      | nil=>rfl
      | cons x l2=>unfold QbG;rw[if_neg (fun e=>hst ⟨l2,by rw[e]⟩)]
     have hk:k=QbG l:=by rw[HL0.out,QeE,hs0];rfl
     have hd:l.drop (QbG l)=l':=by rw[←hk,HL0.out];exact rep_drop k l'
     have HPQ:Hid ((match uqM true l' with
      | none=>none
      | some r=>ppL f (acc++List.replicate k none++[some ⟨r.1.toArray⟩]) (l'.drop r.2))=ppL (l0.length+1) [] l0):=Hi (by have:=HPP.out;rw[ppL,if_neg hlne,hd,←hk]at this;exact this)
     have HPOS:Hid (∀r,uqM true l'=some r→l'≠[]→0<r.2):=Hi fun r h hne=>QhG hs0 hne h
     clear hs0 hk hd hks HPP;have hbw:b<wr.heap.size:=by omega
     have HT9:Hid (Lib.Utf8Tabs 1 2 wr):=Hi (Qbg HT.out (Ext.below (S:=fun _=>False) HB.out) (fun h=>h) (fun h=>h));have HUQ:=Hi (QeB l' b o c wr HT9.out HBY.out ⟨hb2,hbw⟩ (by omega) hlc hcm);have hfst:(¬0<l'.length)∨∃x:UInt8,0<l'.length∧wr.cell? ⟨b,o,none⟩=some (.int .u8 (x.toNat:Int))∧((x.toNat:Int)==42)=false∧¬(x.toNat:Int)=42:=by
      cases l' with
      | nil=>exact .inl (Nat.lt_irrefl 0)
      | cons x l2 =>
       have hx:x.toNat≠42:=fun e=>hst ⟨l2,by rw[show x=42 from UInt8.toNat_inj.1 e]⟩
       have hc:=HBY.out 0 (by simp);rw[Nat.add_zero]at hc;exact .inr ⟨x,by simp,hc,by simp;omega,by omega⟩
     clear hst;rcases hfst with hnl | ⟨x,hpl,hcx,hx1,hx2⟩
     all_goals
      go_wp2_with fail
      refine HUQ.out.mono ?_;rintro e w2⟨B2,h2⟩;have HB2:=Hi (HB.out.trans (B2.mono HB.out.size));have HR2:=Hi ((B2.block _ (Qad HR.out)).trans HR.out);have HO2:=Hi (Qaj (S:=fun _=>False) HO.out (.below B2) (fun _ h=>h.elim));have HBY2:Hid (BytesAt w2 b o l'):=Hi (fun j hj=>(Ext.below (S:=fun _=>False) B2).cell (p:=⟨b,o+j,none⟩) (fun h=>h) (HBY.out j hj));have hz2:=B2.size;clear B2;cases hu:uqM true l' with
      | none =>
       rw[hu]at h2;have HN:Hid (Res=none):=Hi (by have:=HPQ.out;rw[hu]at this;rw[HP.out];unfold ppM;rw[←this];rfl);obtain⟨T,xe,rfl⟩:=h2;have hc0:w2.cell? ⟨w.heap.size,0,none⟩=some (.slice none 0 0):=Qaa HR2.out rfl;have hf0:=Qae HR2.out 0;clear hu
       go_wp2_with fail
       refine Qfm _ 2 3 (by kernel_rfl) rfl rfl rfl (Qac (o:=0) HR2.out _) ?_;rw[HN.out];exact⟨Qby (d:=w.heap.size) (o:=0) HB2.out (Nat.le_refl _),_,_,_,_,_,rfl⟩
      | some r =>
       rw[hu]at h2;obtain⟨hr1,hr2,o3,c3,rfl,hr3,hr4,hr5⟩:=h2;have HPQ2:Hid (ppL f (acc++List.replicate k none++[some ⟨r.1.toArray⟩]) (l'.drop r.2)=ppL (l0.length+1) [] l0):=Hi (by have:=HPQ.out;rw[hu]at this;exact this);have HPOS2:Hid (l'≠[]→0<r.2):=Hi (HPOS.out r hu);obtain⟨r1,r2⟩:=r;simp only at hr1 hr2 hr3 hr4 hr5;have HBUF9:Hid (BufIs w2 (w.heap.size+2) (.slice (some ⟨b,o3,none⟩) (l'.length-r2) c3) (l'.drop r2)):=Hi ⟨b,o3,c3,by rw[List.length_drop],by rw[List.length_drop];exact hr4,Nat.le_trans hr5 hcm,fun j hj=>by
        rw[List.length_drop]at hj;rw[hr3 (by omega)];exact HBY2.out.drop r2 j (by rw[List.length_drop];omega),hb2,hbB⟩
       clear hu hr3;obtain⟨p5,c5,rfl,_⟩:=RwU.own HO2.out;have BA:Below w2.heap.size w2 (w2.alloc (.cells #[.iface 131 (.string ⟨r1.toArray⟩)] 20)):=Qab w2 _;have hnew:=heap_alloc_new w2 (.cells #[.iface 131 (.string ⟨r1.toArray⟩)] 20);have hOa:=Qaj (S:=fun _=>False) HO2.out (.below BA) (fun _ h=>h.elim);have hRa:=(BA.block _ (Qad HR2.out)).trans HR2.out;have hBa:=HB2.out.trans (BA.mono HB2.out.size)
       have HAll:=Hi (And.intro hOa (And.intro hnew (And.intro hRa hBa)));clear hOa hnew hRa hBa BA;have hlenk:acc.length+k≤2000000:=by omega
       go_wp2_with(at_builtin;refine appG sl321 rfl _ _ rfl (w.heap.size+2) _ _ _ rfl HAll.out.1 _ [.iface 131 (.string ⟨r1.toArray⟩)] rfl rfl (fun j u hj=>Qaa HAll.out.2.1 (by simpa using hj)) (fun v hv=>by rw[List.mem_singleton.1 hv];rfl) (by unfold maxLen;omega) (by omega) (by simp;omega) ?_)
       intro v9 w9 hO9 hg9 _;have hB9:Below w.heap.size w w9:=(Ext.grow (S:=fun _=>False) (.below HAll.out.2.2.2) HAll.out.1 hg9 (by omega)).toBelow (fun _ h=>h.elim) (Nat.le_refl _);have hR9:=QaL HAll.out.2.2.1 HAll.out.1 hg9 (by omega);have hz9:=hg9.size;have hbuf9:BufIs w9 (w.heap.size+2) (.slice (some ⟨b,o3,none⟩) (l'.length-r2) c3) (l'.drop r2):=by
        obtain⟨b',o',c',he,q1,q2,q3,q4,q5⟩:=HBUF9.out;refine⟨b',o',c',he,q1,q2,fun j hj=>?_,q4,q5⟩;refine(QdX (p:=⟨b',o'+j,none⟩) ?_).trans (q3 j hj);have hbl:=QcN (q3 j hj);simp only at hbl ⊢;rw[hg9.block b' (by simp;omega) (fun e=>by have:=(Qa5 HAll.out.1 e.symm).1;omega),Below.heap_alloc _ _ _ hbl]
       have hEq:Qd7 (acc++List.replicate k none)++[.iface 131 (.string ⟨r1.toArray⟩)]=Qd7 (acc++List.replicate k none++[some ⟨r1.toArray⟩]):=by rw[Qd7,Qd7,List.map_append (l₁:=acc++_)];rfl
       rw[hEq]at hO9;have hlt:r2=0→l'.length=0:=fun e=>by
        cases l' with
        | nil=>rfl
        | cons a b=>have:=HPOS2.out (by simp);omega
       have HEND:Hid (PpOut w (ppL (l0.length+1) [] l0) (.slice (some ⟨b,o3,none⟩) (l'.length-r2) c3) v9 w9):=Hi ⟨f,_,_,HPQ2.out,by rw[List.length_drop];omega,hbuf9,by rw[List.length_drop];omega,by simpa [Nat.add_assoc]using hO9,by simp;omega,fun s hs=>by
        simp at hs;rcases hs with h | h
        ·exact HSZ.out s h
        ·subst h;show r1.toArray.size≤1000000;simp;omega,hB9,hR9,by simp at hz9;omega⟩
       clear hO9 hB9 hR9 hg9 hz9 hbuf9 hEq
       go_wp2_with fail
       go_roundw
       case rel=>exact HEND.out
       case measure=>simp[QcH];omega
end Go.Proofs.Pg
namespace Go.Proofs.Pg
structure Good(ts:Toks):Prop where
 wf:Wf ts
 len:ts.length≤900000
 sz:∀k∈ts,k.tx.size≤1000000
theorem Good.sf{us ts:Toks}(h:Good ts)(hs:Sf us ts):Good us:=⟨hs.wf h.wf,Nat.le_trans hs.len h.len,fun k hk=>h.sz k (hs.2.subset hk)⟩
theorem Good.adv{ts:Toks}(h:Good ts):Good (adv ts):=h.sf (Qam h.wf)
theorem Good.hd{ts:Toks}(h:Good ts):(hd ts).tx.size≤1000000:=by
 cases ts with
 | nil=>exact h.wf.elim
 | cons k ts=>exact h.sz k (by simp)
def OkF(m:Toks→Option (Ex×Toks)):Prop:=∀ts x us,Good ts→m ts=some (x,us)→OkE x
section
variable {L:Lex}{E:Toks→Option (Ex×Toks)}
theorem QhH(hE:Sh E)(hO:OkF E)(close:List UInt8):∀f acc ts l us,Good ts→(∀a∈acc,OkE a)→QaE E close f acc ts=some (l,us)→(∀a∈l,OkE a)∧l.length≤acc.length+f:=by
 intro f
 induction f with
 | zero=>intro r ts x us h _ he;cases he
 | succ f ih =>
  intro r ts x us h ha he;rw[QaE]at he;split at he
  ·cases he;exact⟨ha,by omega⟩
  ·split at he
   ·cases he
   ·rename_i y vs hv
    have h1:=h.sf (hE _ _ _ h.wf hv).1;have hy:=hO _ _ _ h hv;have ha':∀a∈r++[y],OkE a:=fun a hm=>(List.mem_append.1 hm).elim (ha a) (fun k=>by rw[List.mem_singleton.1 k];exact hy)
    split at he
    ·have:=ih _ _ _ _ h1.adv ha' he
     exact⟨this.1,by have h9:=this.2;rw[List.length_append,List.length_singleton]at h9;omega⟩
    ·split at he
     ·cases he;exact⟨ha',by rw[List.length_append,List.length_singleton];omega⟩
     ·cases he
theorem Qep(hE:Sh E)(hO:OkF E)(close:List UInt8){ts us:Toks}{l:List Ex}(h:Good ts)(he:Qbr E close ts=some (l,us)):(∀a∈l,OkE a)∧l.length≤900001:=by
 have:=QhH hE hO close _ _ _ _ _ h (fun a hm=>by cases hm) he;exact⟨this.1,by have h9:=this.2;have h8:=h.len;simp only[List.length_nil]at h9;omega⟩
theorem entry_ok(hO:OkF E){ts us:Toks}{p:ByteArray×Ex}(h:Good ts)(he:entry L E ts=some (p,us)):OkE p.2:=by
 rw[entry]at he;split at he
 ·cases he
 ·split at he
  ·cases he
  ·rename_i vs hv
   split at he
   ·cases he
   ·rename_i x ws hw
    cases he;exact hO _ _ _ (h.adv.sf (QaC h.adv.wf hv)) hw
theorem recdL_ok(hE:Sh E)(hO:OkF E):∀f acc ts l us,Good ts→(∀a∈acc,OkE a.2)→Qbz L E f acc ts=some (l,us)→(∀a∈l,OkE a.2)∧l.length≤acc.length+f:=by
 intro f
 induction f with
 | zero=>intro r ts x us h _ he;cases he
 | succ f ih =>
  intro r ts x us h ha he;rw[Qbz]at he;split at he
  ·cases he;exact⟨ha,by omega⟩
  ·split at he
   ·cases he
   ·rename_i k y vs hv
    have h1:=h.sf (QdY hE _ _ _ h.wf hv);have hy:=entry_ok hO h hv;have ha':∀a∈r++[(k,y)],OkE a.2:=fun a hm=>(List.mem_append.1 hm).elim (ha a) (fun k=>by rw[List.mem_singleton.1 k];exact hy)
    split at he
    ·cases he
    ·split at he
     ·have:=ih _ _ _ _ h1.adv ha' he
      exact⟨this.1,by have h9:=this.2;rw[List.length_append,List.length_singleton]at h9;omega⟩
     ·split at he
      ·cases he;exact⟨ha',by rw[List.length_append,List.length_singleton];omega⟩
      ·cases he
theorem recd_ok(hE:Sh E)(hO:OkF E){ts us:Toks}{l:List (ByteArray×Ex)}(h:Good ts)(he:recd L E ts=some (l,us)):(∀a∈l,OkE a.2)∧l.length≤900001:=by
 have:=recdL_ok hE hO _ _ _ _ _ h (fun a hm=>by cases hm) he;exact⟨this.1,by have h9:=this.2;have h8:=h.len;simp only[List.length_nil]at h9;omega⟩
theorem Qgl(hE:Sh E)(hO:OkF E):∀f r,OkF (Qa1 L E f r):=by
 intro f
 induction f with
 | zero=>intro r ts x us h he;cases he
 | succ f ih =>
  intro r ts x us h he;rw[Qa1]at he;split at he
  ·split at he
   ·exact ih _ _ _ _ h.adv.adv he
   ·split at he
    ·split at he
     ·cases he
     ·cases he;exact .val _
    ·cases he
  ·split at he
   ·split at he
    ·split at he
     ·cases he
     ·rename_i l vs hv
      cases he;have h1:=Qep hE hO _ h.adv hv;exact .call (by have:=h1.2;omega) h1.1
    ·cases he
   ·cases he
theorem vars_ok{s:List UInt8}{x:Ex}(h:vars s=some x):OkE x:=by
 unfold vars at h
 repeat' split at h
 all_goals first | (cases h;exact .var _) | cases h
theorem Qgm(hE:Sh E)(hO:OkF E):OkF (primary L E):=by
 intro ts x us h he;rw[primary]at he;split at he
 ·split at he
  ·cases he
  ·cases he;exact .val _
 split at he
 ·split at he
  ·cases he
  ·cases he;exact .val _
 split at he
 ·cases he;exact .val _
 split at he
 ·cases he;exact .val _
 split at he
 ·split at he
  ·exact Qgl hE hO _ _ _ _ _ h.adv he
  ·split at he
   ·cases he
   ·rename_i y hy
    cases he;exact vars_ok hy
 split at he
 ·split at he
  ·cases he
  ·rename_i y vs hv
   have h1:=hO _ _ _ h.adv hv;split at he
   ·cases he
   ·cases he
    exact h1
 split at he
 ·split at he
  ·cases he
  ·rename_i l vs hv
   cases he;have h1:=Qep hE hO _ h.adv hv;exact .set (by have:=h1.2;omega) h1.1
 split at he
 ·split at he
  ·cases he
  ·rename_i l vs hv
   cases he;have h1:=recd_ok hE hO h.adv hv;exact .recd (by have:=h1.2;omega) h1.1
 cases he
theorem QeF{op:Nat}{lhs x:Ex}{l:List Ex}(hop:(op,binC op)∈binT)(h1:OkE lhs)(hl:∀a∈l,OkE a)(h:one op lhs l=some x):OkE x:=by
 unfold one at h;split at h
 ·cases h;exact .bin hop h1 (hl _ (by simp))
 ·cases h
theorem QhI{name:ByteArray}{lhs x:Ex}{l:List Ex}(h1:OkE lhs)(hl:∀a∈l,OkE a)(hn:l.length≤900001)(h:method L name lhs l=some x):OkE x:=by
 unfold method at h;split at h
 ·exact QeF (by decide) h1 hl h
 split at h
 ·exact QeF (by decide) h1 hl h
 split at h
 ·exact QeF (by decide) h1 hl h
 split at h
 ·exact QeF (by decide) h1 hl h
 split at h
 ·exact QeF (by decide) h1 hl h
 split at h
 ·split at h
  ·cases h;exact .una (by decide) h1
  ·cases h
 split at h
 ·cases h
  exact .call (by simp;omega) (fun a hm=>by rcases List.mem_cons.1 hm with rfl | hm;exact h1;exact hl a hm)
 ·cases h
theorem QhJ(hE:Sh E)(hO:OkF E){lhs:Ex}(h1:OkE lhs){ts us:Toks}{x:Ex}(h:Good ts)(he:access L E lhs ts=some (some (x,us))):OkE x:=by
 rw[access]at he;split at he
 ·split at he
  ·split at he
   ·split at he
    ·cases he
    ·rename_i l vs hv
     have h2:=Qep hE hO _ h.adv.adv.adv hv;split at he
     ·cases he
     ·rename_i y hy
      cases he;exact QhI h1 h2.1 h2.2 hy
   ·cases he;exact .sop (by decide) h1
  ·cases he
 split at he
 ·split at he
  ·split at he
   ·cases he
   ·split at he
    ·cases he
    ·cases he
     exact .sop (by decide) h1
  ·cases he
 cases he
theorem memL_ok(hE:Sh E)(hO:OkF E):∀f y,OkE y→OkF (memL L E f y):=by
 intro f
 induction f with
 | zero=>intro r _ ts x us h he;cases he
 | succ f ih =>
  intro r hr ts x us h he;rw[memL]at he;split at he
  ·cases he
  ·cases he;exact hr
  ·rename_i y vs hv
   have h1:=QhJ hE hO hr h hv;exact ih _ h1 _ _ _ (h.sf (Qdm hE _ _ _ _ h.wf hv).1) he
theorem QhK(hE:Sh E)(hO:OkF E):OkF (member L E):=by
 intro ts x us h he;rw[member]at he;split at he
 ·cases he
 ·rename_i y vs hv
  exact memL_ok hE hO _ _ (Qgm hE hO _ _ _ h hv) _ _ _ (h.sf (QcS hE _ _ _ h.wf hv).1) he
theorem Qd8:∀(l:List Bool){x:Ex},OkE x→OkE (signed l x)
 | [],_,h=>h
 | b::l,x,h=>by
  have h1:=Qd8 l h;show OkE (if b=true then .una 208 (signed l x)else .una 209 (signed l x));split
  ·exact .una (by decide) h1
  ·exact .una (by decide) h1
theorem QfF(hE:Sh E)(hO:OkF E):OkF (unary L E):=by
 intro ts x us h he;rw[unary]at he;have h0:=h.sf (Qg6 (ts.length+1) [] ts h.wf);split at he
 ·split at he
  ·cases he
  ·cases he
   exact Qd8 _ (.val _)
 ·split at he
  ·cases he
  ·rename_i y vs hv
   cases he;exact Qd8 _ (QhK hE hO _ _ _ h0 hv)
theorem multL_ok(hE:Sh E)(hO:OkF E):∀f y,OkE y→OkF (Qcj L E f y):=by
 intro f
 induction f with
 | zero=>intro r _ ts x us h he;cases he
 | succ f ih =>
  intro r hr ts x us h he;rw[Qcj]at he;split at he
  ·split at he
   ·cases he
   ·rename_i y vs hv
    exact ih _ (.bin (by decide) hr (QfF hE hO _ _ _ h.adv hv)) _ _ _ (h.adv.sf (Qcw hE _ _ _ h.adv.wf hv).1) he
  ·cases he;exact hr
theorem Qfn(hE:Sh E)(hO:OkF E):OkF (mult L E):=by
 intro ts x us h he;rw[mult]at he;split at he
 ·cases he
 ·rename_i y vs hv
  exact multL_ok hE hO _ _ (QfF hE hO _ _ _ h hv) _ _ _ (h.sf (Qcw hE _ _ _ h.wf hv).1) he
theorem addL_ok(hE:Sh E)(hO:OkF E):∀f y,OkE y→OkF (addL L E f y):=by
 intro f
 induction f with
 | zero=>intro r _ ts x us h he;cases he
 | succ f ih =>
  intro r hr ts x us h he;rw[addL]at he;split at he
  ·split at he
   ·cases he
   ·rename_i y vs hv
    exact ih _ (.bin (by decide) hr (Qfn hE hO _ _ _ h.adv hv)) _ _ _ (h.adv.sf (Qca hE _ _ _ h.adv.wf hv).1) he
  ·split at he
   ·split at he
    ·cases he
    ·rename_i y vs hv
     exact ih _ (.bin (by decide) hr (Qfn hE hO _ _ _ h.adv hv)) _ _ _ (h.adv.sf (Qca hE _ _ _ h.adv.wf hv).1) he
   ·cases he;exact hr
theorem QhL(hE:Sh E)(hO:OkF E):OkF (add L E):=by
 intro ts x us h he;rw[add]at he;split at he
 ·cases he
 ·rename_i y vs hv
  exact addL_ok hE hO _ _ (Qfn hE hO _ _ _ h hv) _ _ _ (h.sf (Qca hE _ _ _ h.wf hv).1) he
theorem hasL_ok:∀f r c,OkE r→OkE c→OkF (hasL f r c):=by
 intro f
 induction f with
 | zero=>intro r c _ _ ts x us h he;cases he
 | succ f ih =>
  intro r c hr hc ts x us h he;rw[hasL]at he;split at he
  ·split at he
   ·exact ih _ _ (.bin (by decide) hr (.sop (by decide) hc)) (.sop (by decide) hc) _ _ _ h.adv.adv he
   ·cases he
  ·cases he;exact hr
theorem has_ok{lhs:Ex}(h1:OkE lhs):OkF (has L lhs):=by
 intro ts x us h he;rw[has]at he;split at he
 ·exact hasL_ok _ _ _ (.sop (by decide) h1) (.sop (by decide) h1) _ _ _ h.adv he
 ·split at he
  ·split at he
   ·cases he
   ·cases he;exact .sop (by decide) h1
  ·cases he
theorem like_ok(hP:∀s p,s.size≤1000000→L.pat s=some p→p.length≤10000000){lhs:Ex}(h1:OkE lhs):OkF (like L lhs):=by
 intro ts x us h he;rw[like]at he;split at he
 ·split at he
  ·cases he
  ·rename_i p hp
   cases he;exact .like (hP _ _ h.hd hp) h1
 ·cases he
theorem is_ok(hE:Sh E)(hO:OkF E){lhs:Ex}(h1:OkE lhs):OkF (is L E lhs):=by
 intro ts x us h he;rw[Pg.is]at he;split at he
 ·cases he
 ·rename_i p vs hv
  have w1:=h.sf (QcR _ _ _ h.wf hv).1;split at he
  ·split at he
   ·cases he
   ·rename_i y ws hw
    cases he;exact .isIn h1 (QhL hE hO _ _ _ w1.adv hw)
  ·cases he
   exact .sop (by decide) h1
theorem relOp_ok{s:List UInt8}{op:Nat}(h:QbM s=some op):(op,binC op)∈binT:=by
 unfold QbM at h
 repeat' split at h
 all_goals first | (cases h;decide) | cases h
theorem Qd9(hP:∀s p,s.size≤1000000→L.pat s=some p→p.length≤10000000)(hE:Sh E)(hO:OkF E):OkF (relation L E):=by
 intro ts x us h he;rw[relation]at he;split at he
 ·cases he
 ·rename_i y vs hv
  have h1:=QhL hE hO _ _ _ h hv;have w1:=h.sf (Qer hE _ _ _ h.wf hv).1;split at he
  ·exact has_ok h1 _ _ _ w1.adv he
  split at he
  ·exact like_ok hP h1 _ _ _ w1.adv he
  split at he
  ·exact is_ok hE hO h1 _ _ _ w1.adv he
  split at he
  ·cases he;exact h1
  ·rename_i op hop
   split at he
   ·cases he
   ·rename_i z zs hz
    cases he;exact .bin (relOp_ok hop) h1 (QhL hE hO _ _ _ w1.adv hz)
theorem andL_ok(hP:∀s p,s.size≤1000000→L.pat s=some p→p.length≤10000000)(hE:Sh E)(hO:OkF E):∀f y,OkE y→OkF (andL L E f y):=by
 intro f
 induction f with
 | zero=>intro r _ ts x us h he;cases he
 | succ f ih =>
  intro r hr ts x us h he;rw[andL]at he;split at he
  ·split at he
   ·cases he
   ·rename_i y vs hv
    exact ih _ (.bin (by decide) hr (Qd9 hP hE hO _ _ _ h.adv hv)) _ _ _ (h.adv.sf (Qbu hE _ _ _ h.adv.wf hv).1) he
  ·cases he;exact hr
theorem and_ok(hP:∀s p,s.size≤1000000→L.pat s=some p→p.length≤10000000)(hE:Sh E)(hO:OkF E):OkF (Pg.and L E):=by
 intro ts x us h he;rw[Pg.and]at he;split at he
 ·cases he
 ·rename_i y vs hv
  exact andL_ok hP hE hO _ _ (Qd9 hP hE hO _ _ _ h hv) _ _ _ (h.sf (Qbu hE _ _ _ h.wf hv).1) he
theorem orL_ok(hP:∀s p,s.size≤1000000→L.pat s=some p→p.length≤10000000)(hE:Sh E)(hO:OkF E):∀f y,OkE y→OkF (orL L E f y):=by
 intro f
 induction f with
 | zero=>intro r _ ts x us h he;cases he
 | succ f ih =>
  intro r hr ts x us h he;rw[orL]at he;split at he
  ·split at he
   ·cases he
   ·rename_i y vs hv
    exact ih _ (.bin (by decide) hr (and_ok hP hE hO _ _ _ h.adv hv)) _ _ _ (h.adv.sf (QdJ hE _ _ _ h.adv.wf hv).1) he
  ·cases he;exact hr
theorem or_ok(hP:∀s p,s.size≤1000000→L.pat s=some p→p.length≤10000000)(hE:Sh E)(hO:OkF E):OkF (Pg.or L E):=by
 intro ts x us h he;rw[Pg.or]at he;split at he
 ·cases he
 ·rename_i y vs hv
  exact orL_ok hP hE hO _ _ (and_ok hP hE hO _ _ _ h hv) _ _ _ (h.sf (QdJ hE _ _ _ h.wf hv).1) he
theorem exprB_ok(hP:∀s p,s.size≤1000000→L.pat s=some p→p.length≤10000000)(hE:Sh E)(hO:OkF E):OkF (QbH L E):=by
 intro ts x us h he;rw[QbH]at he;split at he
 ·split at he
  ·cases he
  ·rename_i y vs hv
   have h1:=hO _ _ _ h.adv hv;have w1:=h.adv.sf (hE _ _ _ h.adv.wf hv).1;split at he
   ·cases he
   ·rename_i us2 h2
    have w2:=w1.sf (QaC w1.wf h2);split at he
    ·cases he
    ·rename_i z zs hz
     have h3:=hO _ _ _ w2 hz;have w3:=w2.sf (hE _ _ _ w2.wf hz).1;split at he
     ·cases he
     ·rename_i us4 h4
      have w4:=w3.sf (QaC w3.wf h4);split at he
      ·cases he
      ·rename_i q qs hq
       cases he;exact .ite h1 h3 (hO _ _ _ w4 hq)
 ·exact or_ok hP hE hO _ _ _ h he
end
theorem QhM{L:Lex}(hP:∀s p,s.size≤1000000→L.pat s=some p→p.length≤10000000):∀f,OkF (expr L f)
 | 0=>fun ts x us _ he=>by cases he
 | f+1=>exprB_ok hP (QdZ f) (QhM hP f)
theorem npM_len(l:List (Option ByteArray)):(npM l).length≤l.length:=by
 have key:∀(l:List (Option ByteArray))(acc:Pats),(l.foldl QcG acc).length≤acc.length+l.length:=by
  intro l
  induction l with
  | nil=>intro acc;exact Nat.le_refl _
  | cons c l ih =>
   intro acc;have h1:=ih (QcG acc c);have h2:(QcG acc c).length≤acc.length+1:=by
    unfold QcG;cases c with
    | some s =>
     cases h:acc.getLast? with
     | none=>simp
     | some p=>simp only[List.length_append,List.length_dropLast,List.length_cons,List.length_nil];omega
    | none =>
     cases h:acc.getLast? with
     | none=>simp
     | some p =>
      simp only;split
      ·omega
      ·rw[List.length_append,List.length_singleton];omega
   rw[List.foldl_cons,List.length_cons];omega
 have:=key l [];rw[List.length_nil,Nat.zero_add]at this;exact this
theorem QhN:∀(f:Nat)(acc:List (Option ByteArray))(l:List UInt8)(r:List (Option ByteArray)),ppL f acc l=some r→r.length≤acc.length+2*l.length
 | 0,_,_,_,h=>by cases h
 | f+1,acc,l,r,h=>by
  rw[ppL]at h;split at h
  ·cases h;omega
  ·rename_i hl
   split at h
   ·cases h
   ·rename_i q hq
    have h1:=QhN f _ _ _ h;have h2:=QfE l;have h4:0<l.length:=List.length_pos_iff.2 hl;simp only[List.length_append,List.length_replicate,List.length_cons,List.length_nil,List.length_drop]at h1;by_cases hd:l.drop (QbG l)=[]
    ·have:=congrArg List.length hd
     simp at this;omega
    ·have h3:=QhG (QdO l) hd hq
     have:=List.length_pos_iff.2 hd;simp at this;omega
theorem patM_len{s:ByteArray}{p:Pats}(hs:s.size≤1000000)(h:patM s=some p):p.length≤10000000:=by
 unfold patM ppM at h;cases hp:ppL ((Qdn s).data.toList.length+1) [] (Qdn s).data.toList with
 | none=>rw[hp]at h;cases h
 | some r =>
  rw[hp]at h;have h1:=QhN _ _ _ _ hp;have h2:=Qeo (Lib.trimPrefix s.data.toList [34]) [34];have h3:=Qdl s.data.toList [34];have h4:s.data.toList.length=s.size:=rfl;have h5:(Qdn s).data.toList.length≤1000000:=by
   show(Lib.trimSuffix (Lib.trimPrefix s.data.toList [34]) [34]).length≤1000000;omega
  simp only[Option.map_some,Option.some.injEq]at h;subst h;have h6:=npM_len (if r=[]then [some ⟨#[]⟩]else r);split at h6
  ·simp at h6;simp_all;omega
  ·simp only[List.length_nil,Nat.zero_add]at h1
   rename_i hr;simp only[if_neg hr];omega
end Go.Proofs.Pg
