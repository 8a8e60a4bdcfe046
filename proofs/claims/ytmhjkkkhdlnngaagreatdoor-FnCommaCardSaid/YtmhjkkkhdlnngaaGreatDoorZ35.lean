/- FnComma: a last comma changes nothing; for every world. Part 35. -/
import Derived.Test.YtmhjkkkhdlnngaaGreatDoorZ34
import Derived.Laws.IdiomStrings
set_option linter.all false
set_option maxRecDepth 100000
set_option maxHeartbeats 40000000
namespace Go.Proofs.Pg
open Go.RowKit
attribute [local go_sem] Oper.semAt_some
def UqRel(star:Bool)(l:List UInt8)(Res:Option (List UInt8×Nat))(w0:World)(s:Value)(wr:World):Prop :=
 ∃f acc i,s=.int .i64 ((i:Nat):Int)∧uqL star l f acc i=Res∧l.length-i<f∧i≤l.length∧acc.length≤i∧Lib.IsBuilderF 360 5 w0.heap.size w0.heap.size (Lib.byteCells acc) wr∧Below w0.heap.size w0 wr
def UqP(l:List UInt8)(b off cap:Nat)(w:World)(R:Option (List UInt8×Nat))(e:Ending)(w':World):Prop :=
 Below w.heap.size w w'∧match R with
 | none=>∃T x,e=.returned (.tuple #[.string ⟨#[]⟩,.slice none 0 0,.iface T x])
 | some r=>r.2≤l.length∧r.1.length≤l.length∧∃o c,e=.returned (.tuple #[.string ⟨r.1.toArray⟩,.slice (some ⟨b,o,none⟩) (l.length-r.2) c,.nilIface])∧(r.2<l.length→o=off+r.2)∧l.length-r.2≤c∧c≤cap
theorem QhD(acc:List UInt8)(r:Int):Lib.byteCells acc++Lib.runeCells r=Lib.byteCells (acc++enc r):=by
 rw[←Lib.byteCells_encodeRune];simp[Lib.byteCells]
theorem UqRel.wrote{star:Bool}{l:List UInt8}{Res:Option (List UInt8×Nat)}{w0 w w':World}{acc:List UInt8}{r:Int}{f j:Nat}(hr:uqL star l f (acc++enc r) j=Res)(hf:l.length-j<f)(hj:j≤l.length)(ha:acc.length+(enc r).length≤j)
  (hb:Below w0.heap.size w0 w)(hw:Lib.BuilderAtF 360 5 w0.heap.size w0.heap.size (.pointer (some ⟨w0.heap.size,0,none⟩)) (Lib.byteCells acc++Lib.runeCells r) w')(hB:Below w0.heap.size w w'):UqRel star l Res w0 (.int .i64 ((j:Nat):Int)) w' :=
 ⟨f,acc++enc r,j,rfl,hr,hf,hj,by rw[List.length_append];exact ha,.inr (by rw[←QhD];exact hw),hb.trans hB⟩
section
variable {star:Bool}{l:List UInt8}{f:Nat}{acc:List UInt8}{i a1 a2 b1 b2:Nat}
theorem QhE(h:¬i<l.length):uqL star l (f+1) acc i=some (acc,i):=by rw[uqL,if_neg h]
theorem Qem(h:i<l.length)(hn:nrX l i=none):uqL star l (f+1) acc i=none:=by rw[uqL,if_pos h,hn]
theorem uq_star(h:i<l.length)(hn:nrX l i=some (42,a2)):uqL true l (f+1) acc i=some (acc,a2-1):=by rw[uqL,if_pos h,hn];simp
theorem QfD(h:i<l.length)(hn:nrX l i=some (a1,a2))(h1:¬(star=true∧a1=42))(h2:a1≠92):uqL star l (f+1) acc i=uqL star l f (acc++enc a1) a2:=by
 rw[uqL,if_pos h,hn];simp only[if_neg h1,if_neg h2]
theorem uq_e0(h:i<l.length)(hn:nrX l i=some (92,a2))(hm:nrX l a2=none):uqL star l (f+1) acc i=none:=by rw[uqL,if_pos h,hn];simp[hm]
theorem QcF{c:Nat}(h:i<l.length)(hn:nrX l i=some (92,a2))(hm:nrX l a2=some (b1,b2))(he:esc1 b1=some c):uqL star l (f+1) acc i=uqL star l f (acc++enc c) b2:=by rw[uqL,if_pos h,hn];simp[hm,he]
theorem uq_x(h:i<l.length)(hn:nrX l i=some (92,a2))(hm:nrX l a2=some (120,b2)):uqL star l (f+1) acc i=match hexE l b2 with
  | none=>none
  | some r=>uqL star l f (acc++enc r.1) r.2:=by rw[uqL,if_pos h,hn];simp[hm,esc1];cases hexE l b2<;>rfl
theorem uq_u(h:i<l.length)(hn:nrX l i=some (92,a2))(hm:nrX l a2=some (117,b2)):uqL star l (f+1) acc i=match uniE l b2 with
  | none=>none
  | some r=>uqL star l f (acc++enc r.1) r.2:=by rw[uqL,if_pos h,hn];simp[hm,esc1];cases uniE l b2<;>rfl
theorem uq_s(h:i<l.length)(hn:nrX l i=some (92,a2))(hm:nrX l a2=some (42,b2)):uqL true l (f+1) acc i=uqL true l f (acc++enc 42) b2:=by rw[uqL,if_pos h,hn];simp[hm,esc1]
theorem QhF(h:i<l.length)(hn:nrX l i=some (92,a2))(hm:nrX l a2=some (b1,b2))(he:esc1 b1=none)(h1:b1≠120)(h2:b1≠117)(h3:¬(b1=42∧star=true)):uqL star l (f+1) acc i=none:=by rw[uqL,if_pos h,hn];simp[hm,he,h1,h2];exact fun a b=>(h3 ⟨a,b⟩).elim
end
theorem Qen(l:List UInt8)(b off cap:Nat)(w:World)(hT:Lib.Utf8Tabs 1 2 w)(hc:BytesAt w b off l)(hb:2<b∧b<w.heap.size)(hlen:l.length≤1000000)(hcap:l.length≤cap)(hcm:cap≤maxLen) :
  Calls Tryz.prog 171 #[.slice (some ⟨b,off,none⟩) l.length cap,.bool false] w (UqP l b off cap w (uqM false l)):=by
 have hT':∀w',Below w.heap.size w w'→Lib.Utf8Tabs 1 2 w'∧BytesAt w' b off l∧(2<b∧b<w'.heap.size):=fun w' hB=>⟨Qbg hT (Ext.below (S:=fun _=>False) hB) (fun h=>h) (fun h=>h),fun k hk=>(Ext.below (S:=fun _=>False) hB).cell (p:=⟨b,off+k,none⟩) (fun h=>h) (hc k hk),hb.1,Nat.lt_of_lt_of_le hb.2 hB.size⟩
 have HN:Hid (∀w',Below w.heap.size w w'→∀j,j≤l.length→Calls Tryz.prog 187 #[.slice (some ⟨b,off,none⟩) l.length cap,.int .i64 j] w' (NrP w' j (nrX l j))):=Hi fun w' hB j hj=>QbK l b off cap j w' (hT' w' hB).1 (hT' w' hB).2.1 (hT' w' hB).2.2.2 hlen hj hcap hcm
 have HX:Hid (∀w',Below w.heap.size w w'→∀j,j≤l.length→Calls Tryz.prog 190 #[.slice (some ⟨b,off,none⟩) l.length cap,.int .i64 j] w' (EscP w' (hexE l j))):=Hi fun w' hB j hj=>QfB l b off cap j w' (hT' w' hB).1 (hT' w' hB).2.1 (hT' w' hB).2.2 hlen hj hcap hcm
 have HU:Hid (∀w',Below w.heap.size w w'→∀j,j≤l.length→Calls Tryz.prog 191 #[.slice (some ⟨b,off,none⟩) l.length cap,.int .i64 j] w' (EscP w' (uniE l j))):=Hi fun w' hB j hj=>QfC l b off cap j w' (hT' w' hB).1 (hT' w' hB).2.1 (hT' w' hB).2.2 hlen hj hcap hcm
 clear hT' hT hc hb;have HM:Hid (uqM false l=uqL false l (l.length+1) [] 0):=Hi rfl;generalize uqM false l=Res at *;go_enter Tryz.func171,Tryz.ntmps171
 go_upto_region 5 with(fail)
 obtain⟨w1,hw⟩:∃w1,w.alloc (.cells #[.pointer none,.slice none 0 0] 360)=w1:=⟨_,rfl⟩
 rw[hw];have HQ:Hid (UqRel false l Res w (.int .i64 0) w1):=Hi ⟨l.length+1,[],0,rfl,HM.out.symm,by omega,Nat.zero_le _,Nat.le_refl _,by rw[←hw];exact Qd6 w,by rw[←hw];exact Qab w _⟩;clear hw
 go_loopw [10] (fun s wr=>UqRel false l Res w s wr) (fun s _=>l.length-(intOf s).toNat)
 case atStart=>exact HQ.out
 case round =>
  clear HQ HM;obtain⟨f,acc,i,rfl,hu,hf,hil,hai,hbd,hB⟩:=hrel;obtain⟨f,rfl⟩:∃g,f=g+1:=⟨f-1,by omega⟩
  have HB:=Hi hB;clear hB;have HBD:=Hi hbd;clear hbd;by_cases hlt:i<l.length
  ·go_wp2_with fail
   refine(HN.out _ HB.out i hil).mono ?_;rintro e w2⟨B2,h2⟩;have HB2:Hid (Below w.heap.size w w2):=Hi (HB.out.trans (B2.mono HB.out.size));have HBD2:=Hi (QaS HBD.out B2);clear B2 HB HBD;cases hn:nrX l i with
   | none =>
    rw[hn]at h2;have HR:Hid (none=Res):=Hi ((Qem hlt hn).symm.trans hu);clear hu;obtain⟨T,x,rfl⟩:=h2;clear hn
    go_wp2_with fail
    refine bodyPost_ret (results_tmp3 (t:=4) (u:=5) (v:=6) (by kernel_rfl) _ _ _) rfl ?_;rw[←HR.out];exact⟨HB2.out,_,_,rfl⟩
   | some a =>
    rw[hn]at h2;subst h2;have ha:=QbF hn;have hae:=QhB hn;obtain⟨a1,a2⟩:=a;simp only at ha hae;have HUN:=Hi (And.intro hu hn);clear hu hn;by_cases h92:a1=92
    ·subst h92
     clear hae
     go_wp2_with fail
     refine(HN.out _ HB2.out a2 ha.2.1).mono ?_;rintro e w3⟨B3,h3⟩;have HB3:Hid (Below w.heap.size w w3):=Hi (HB2.out.trans (B3.mono HB2.out.size));have HBD3:=Hi (QaS HBD2.out B3);clear B3 HB2 HBD2;cases hm:nrX l a2 with
     | none =>
      rw[hm]at h3;have HR:Hid (none=Res):=Hi ((uq_e0 hlt HUN.out.2 hm).symm.trans HUN.out.1);obtain⟨T,x,rfl⟩:=h3;clear hm
      go_wp2_with fail
      refine bodyPost_ret (results_tmp3 (t:=4) (u:=5) (v:=6) (by kernel_rfl) _ _ _) rfl ?_;rw[←HR.out];exact⟨HB3.out,_,_,rfl⟩
     | some c =>
      rw[hm]at h3;subst h3;have hc:=QbF hm;obtain⟨b1,b2⟩:=c;simp only at hc;have HM:=Hi hm;clear hm;by_cases q110:b1=110
      ·subst q110
       have HRL:Hid (uqL false l f (acc++enc 10) b2=Res):=Hi ((QcF (c:=10) hlt HUN.out.2 HM.out rfl).symm.trans HUN.out.1);have hle:=Qbe (r:=10) (by decide) (by decide)
       go_wp2_with fail
       refine(Tryz.Builder_WriteRune_k w.heap.size w.heap.size _ 10 (by omega) (by omega) _ HBD3.out (by rw[Lib.byteCells_length];omega) HB3.out.size).mono ?_;rintro e w8⟨rfl,hw8,B8,_⟩;have HEND:=Hi (UqRel.wrote (r:=10) HRL.out (by omega) (by omega) (by omega) HB3.out hw8 B8);clear hw8 B8
       go_wp2_with fail
       go_roundw
       case rel=>exact HEND.out
       case measure=>simp[intOf];omega
      have e110:((b1:Int)==110)=false:=by simp;omega
      have n110:¬(b1:Int)=110:=by omega
      by_cases q114:b1=114
      ·subst q114
       have HRL:Hid (uqL false l f (acc++enc 13) b2=Res):=Hi ((QcF (c:=13) hlt HUN.out.2 HM.out rfl).symm.trans HUN.out.1);have hle:=Qbe (r:=13) (by decide) (by decide)
       go_wp2_with fail
       refine(Tryz.Builder_WriteRune_k w.heap.size w.heap.size _ 13 (by omega) (by omega) _ HBD3.out (by rw[Lib.byteCells_length];omega) HB3.out.size).mono ?_;rintro e w8⟨rfl,hw8,B8,_⟩;have HEND:=Hi (UqRel.wrote (r:=13) HRL.out (by omega) (by omega) (by omega) HB3.out hw8 B8);clear hw8 B8
       go_wp2_with fail
       go_roundw
       case rel=>exact HEND.out
       case measure=>simp[intOf];omega
      have e114:((b1:Int)==114)=false:=by simp;omega
      have n114:¬(b1:Int)=114:=by omega
      by_cases q116:b1=116
      ·subst q116
       have HRL:Hid (uqL false l f (acc++enc 9) b2=Res):=Hi ((QcF (c:=9) hlt HUN.out.2 HM.out rfl).symm.trans HUN.out.1);have hle:=Qbe (r:=9) (by decide) (by decide)
       go_wp2_with fail
       refine(Tryz.Builder_WriteRune_k w.heap.size w.heap.size _ 9 (by omega) (by omega) _ HBD3.out (by rw[Lib.byteCells_length];omega) HB3.out.size).mono ?_;rintro e w8⟨rfl,hw8,B8,_⟩;have HEND:=Hi (UqRel.wrote (r:=9) HRL.out (by omega) (by omega) (by omega) HB3.out hw8 B8);clear hw8 B8
       go_wp2_with fail
       go_roundw
       case rel=>exact HEND.out
       case measure=>simp[intOf];omega
      have e116:((b1:Int)==116)=false:=by simp;omega
      have n116:¬(b1:Int)=116:=by omega
      by_cases q92:b1=92
      ·subst q92
       have HRL:Hid (uqL false l f (acc++enc 92) b2=Res):=Hi ((QcF (c:=92) hlt HUN.out.2 HM.out rfl).symm.trans HUN.out.1);have hle:=Qbe (r:=92) (by decide) (by decide)
       go_wp2_with fail
       refine(Tryz.Builder_WriteRune_k w.heap.size w.heap.size _ 92 (by omega) (by omega) _ HBD3.out (by rw[Lib.byteCells_length];omega) HB3.out.size).mono ?_;rintro e w8⟨rfl,hw8,B8,_⟩;have HEND:=Hi (UqRel.wrote (r:=92) HRL.out (by omega) (by omega) (by omega) HB3.out hw8 B8);clear hw8 B8
       go_wp2_with fail
       go_roundw
       case rel=>exact HEND.out
       case measure=>simp[intOf];omega
      have e92:((b1:Int)==92)=false:=by simp;omega
      have n92:¬(b1:Int)=92:=by omega
      by_cases q48:b1=48
      ·subst q48
       have HRL:Hid (uqL false l f (acc++enc 0) b2=Res):=Hi ((QcF (c:=0) hlt HUN.out.2 HM.out rfl).symm.trans HUN.out.1);have hle:=Qbe (r:=0) (by decide) (by decide)
       go_wp2_with fail
       refine(Tryz.Builder_WriteRune_k w.heap.size w.heap.size _ 0 (by omega) (by omega) _ HBD3.out (by rw[Lib.byteCells_length];omega) HB3.out.size).mono ?_;rintro e w8⟨rfl,hw8,B8,_⟩;have HEND:=Hi (UqRel.wrote (r:=0) HRL.out (by omega) (by omega) (by omega) HB3.out hw8 B8);clear hw8 B8
       go_wp2_with fail
       go_roundw
       case rel=>exact HEND.out
       case measure=>simp[intOf];omega
      have e48:((b1:Int)==48)=false:=by simp;omega
      have n48:¬(b1:Int)=48:=by omega
      by_cases q39:b1=39
      ·subst q39
       have HRL:Hid (uqL false l f (acc++enc 39) b2=Res):=Hi ((QcF (c:=39) hlt HUN.out.2 HM.out rfl).symm.trans HUN.out.1);have hle:=Qbe (r:=39) (by decide) (by decide)
       go_wp2_with fail
       refine(Tryz.Builder_WriteRune_k w.heap.size w.heap.size _ 39 (by omega) (by omega) _ HBD3.out (by rw[Lib.byteCells_length];omega) HB3.out.size).mono ?_;rintro e w8⟨rfl,hw8,B8,_⟩;have HEND:=Hi (UqRel.wrote (r:=39) HRL.out (by omega) (by omega) (by omega) HB3.out hw8 B8);clear hw8 B8
       go_wp2_with fail
       go_roundw
       case rel=>exact HEND.out
       case measure=>simp[intOf];omega
      have e39:((b1:Int)==39)=false:=by simp;omega
      have n39:¬(b1:Int)=39:=by omega
      by_cases q34:b1=34
      ·subst q34
       have HRL:Hid (uqL false l f (acc++enc 34) b2=Res):=Hi ((QcF (c:=34) hlt HUN.out.2 HM.out rfl).symm.trans HUN.out.1);have hle:=Qbe (r:=34) (by decide) (by decide)
       go_wp2_with fail
       refine(Tryz.Builder_WriteRune_k w.heap.size w.heap.size _ 34 (by omega) (by omega) _ HBD3.out (by rw[Lib.byteCells_length];omega) HB3.out.size).mono ?_;rintro e w8⟨rfl,hw8,B8,_⟩;have HEND:=Hi (UqRel.wrote (r:=34) HRL.out (by omega) (by omega) (by omega) HB3.out hw8 B8);clear hw8 B8
       go_wp2_with fail
       go_roundw
       case rel=>exact HEND.out
       case measure=>simp[intOf];omega
      have e34:((b1:Int)==34)=false:=by simp;omega
      have n34:¬(b1:Int)=34:=by omega
      by_cases q120:b1=120
      ·subst q120
       go_wp2_with fail
       refine(HX.out _ HB3.out b2 hc.2.1).mono ?_;rintro e w4⟨B4,h4⟩;have HB4:Hid (Below w.heap.size w w4):=Hi (HB3.out.trans (B4.mono HB3.out.size));have HBD4:=Hi (QaS HBD3.out B4);clear B4 HB3 HBD3;have HRX:=Hi ((uq_x hlt HUN.out.2 HM.out).symm.trans HUN.out.1);cases hx:hexE l b2 with
       | none =>
        rw[hx]at h4;have HR:Hid (none=Res):=Hi (by have:=HRX.out;rw[hx]at this;exact this);obtain⟨v9,i9,T,x,rfl⟩:=h4;clear hx
        go_wp2_with fail
        refine bodyPost_ret (results_tmp3 (t:=4) (u:=5) (v:=6) (by kernel_rfl) _ _ _) rfl ?_;rw[←HR.out];exact⟨HB4.out,_,_,rfl⟩
       | some r =>
        rw[hx]at h4;subst h4;have hr:=Qek hx;have HRL:Hid (uqL false l f (acc++enc r.1) r.2=Res):=Hi (by have:=HRX.out;rw[hx]at this;exact this);obtain⟨r1,r2⟩:=r;simp only at hr;have hr1:0≤r1∧r1≤1114111:=by omega
        have hle:(enc r1).length≤1:=Qbe hr.2.2.1 hr.2.2.2;clear hx
        go_wp2_with fail
        refine(Tryz.Builder_WriteRune_k w.heap.size w.heap.size _ r1 (by omega) (by omega) _ HBD4.out (by rw[Lib.byteCells_length];omega) HB4.out.size).mono ?_;rintro e w8⟨rfl,hw8,B8,_⟩;have HEND:=Hi (UqRel.wrote (r:=r1) HRL.out (by omega) (by omega) (by omega) HB4.out hw8 B8);clear hw8 B8
        go_wp2_with fail
        go_roundw
        case rel=>exact HEND.out
        case measure=>simp[intOf];omega
      have e120:((b1:Int)==120)=false:=by simp;omega
      have n120:¬(b1:Int)=120:=by omega
      by_cases q117:b1=117
      ·subst q117
       go_wp2_with fail
       refine(HU.out _ HB3.out b2 hc.2.1).mono ?_;rintro e w4⟨B4,h4⟩;have HB4:Hid (Below w.heap.size w w4):=Hi (HB3.out.trans (B4.mono HB3.out.size));have HBD4:=Hi (QaS HBD3.out B4);clear B4 HB3 HBD3;have HRX:=Hi ((uq_u hlt HUN.out.2 HM.out).symm.trans HUN.out.1);cases hx:uniE l b2 with
       | none =>
        rw[hx]at h4;have HR:Hid (none=Res):=Hi (by have:=HRX.out;rw[hx]at this;exact this);obtain⟨v9,i9,T,x,rfl⟩:=h4;clear hx
        go_wp2_with fail
        refine bodyPost_ret (results_tmp3 (t:=4) (u:=5) (v:=6) (by kernel_rfl) _ _ _) rfl ?_;rw[←HR.out];exact⟨HB4.out,_,_,rfl⟩
       | some r =>
        rw[hx]at h4;subst h4;have hr:=Qel hx;have HRL:Hid (uqL false l f (acc++enc r.1) r.2=Res):=Hi (by have:=HRX.out;rw[hx]at this;exact this);obtain⟨r1,r2⟩:=r;simp only at hr;have hr1:0≤r1∧r1≤1114111:=Qdc hr.2.2;have hle:(enc r1).length≤4:=QhA r1;clear hx
        go_wp2_with fail
        refine(Tryz.Builder_WriteRune_k w.heap.size w.heap.size _ r1 (by omega) (by omega) _ HBD4.out (by rw[Lib.byteCells_length];omega) HB4.out.size).mono ?_;rintro e w8⟨rfl,hw8,B8,_⟩;have HEND:=Hi (UqRel.wrote (r:=r1) HRL.out (by omega) (by omega) (by omega) HB4.out hw8 B8);clear hw8 B8
        go_wp2_with fail
        go_roundw
        case rel=>exact HEND.out
        case measure=>simp[intOf];omega
      have e117:((b1:Int)==117)=false:=by simp;omega
      have n117:¬(b1:Int)=117:=by omega
      have hne:esc1 b1=none:=by unfold esc1;simp[q110,q114,q116,q92,q48,q39,q34]
      by_cases q42:b1=42
      ·subst q42
       have HR:Hid (none=Res):=Hi ((QhF hlt HUN.out.2 HM.out hne q120 q117 (by simp)).symm.trans HUN.out.1);clear hne
       go_wp2_with fail
       refine(QaV _ _).mono ?_;rintro e w9⟨T,x,rfl,B9⟩;have HB9:=Hi B9;clear B9
       go_wp2_with fail
       refine bodyPost_ret (results_tmp3 (t:=4) (u:=5) (v:=6) (by kernel_rfl) _ _ _) rfl ?_;rw[←HR.out];exact⟨HB3.out.trans (HB9.out.mono HB3.out.size),_,_,rfl⟩
      ·have e42:((b1:Int)==42)=false:=by simp;omega
       have n42:¬(b1:Int)=42:=by omega
       have HR:Hid (none=Res):=Hi ((QhF hlt HUN.out.2 HM.out hne q120 q117 (fun h=>q42 h.1)).symm.trans HUN.out.1);clear hne q110 q114 q116 q92 q48 q39 q34 q120 q117 q42
       go_wp2_with fail
       refine(QaV _ _).mono ?_;rintro e w9⟨T,x,rfl,B9⟩;have HB9:=Hi B9;clear B9
       go_wp2_with fail
       refine bodyPost_ret (results_tmp3 (t:=4) (u:=5) (v:=6) (by kernel_rfl) _ _ _) rfl ?_;rw[←HR.out];exact⟨HB3.out.trans (HB9.out.mono HB3.out.size),_,_,rfl⟩
    ·have e92:((a1:Int)==92)=false:=by simp;omega
     have n92:¬(a1:Int)=92:=by omega
     have HRL:Hid (uqL false l f (acc++enc a1) a2=Res):=Hi ((QfD hlt HUN.out.2 (by simp) h92).symm.trans HUN.out.1)
     go_wp2_with fail
     refine(Tryz.Builder_WriteRune_k w.heap.size w.heap.size _ (a1:Int) (by omega) (by omega) _ HBD2.out (by rw[Lib.byteCells_length];omega) HB2.out.size).mono ?_;rintro e w8⟨rfl,hw8,B8,_⟩;have HEND:=Hi (UqRel.wrote (r:=(a1:Int)) HRL.out (by omega) (by omega) (by omega) HB2.out hw8 B8);clear hw8 B8
     go_wp2_with fail
     go_roundw
     case rel=>exact HEND.out
     case measure=>simp[intOf];omega
  ·obtain rfl:i=l.length:=by omega
   have HR:Hid (some (acc,l.length)=Res):=Hi ((QhE hlt).symm.trans hu);clear hu;by_cases g1:cap=l.length
   all_goals
    go_upto_region 47 with(fail)
    have HD:=Hi (show Lib.IsBuilderF 360 5 w.heap.size w.heap.size (Lib.byteCells acc) wr.drew from HBD.out);have HZ:=Hi (show w.heap.size≤wr.drew.heap.size from HB.out.size);have HBw:Hid (Below w.heap.size w wr.drew):=Hi ⟨HB.out.os,HB.out.tape,HB.out.output,HB.out.size,HB.out.block⟩
    go_region_with(go_at_call 188;refine(Tryz.Builder_String_any_k w.heap.size w.heap.size acc wr.drew HD.out HZ.out).mono ?_;rintro e w3 ⟨rfl,_,B3,_⟩)
    all_goals
     go_wp2;refine bodyPost_ret (results_tmp3 (t:=4) (u:=5) (v:=6) (by kernel_rfl) _ _ _) rfl ?_;rw[←HR.out];refine⟨HBw.out.trans B3,Nat.le_refl _,by simp only;omega,?_⟩;simp only[Nat.sub_self]
     first
      | exact⟨_,_,rfl,fun h=>absurd h (Nat.lt_irrefl _),Nat.zero_le _,by omega⟩
      | exact⟨_,_,rfl,fun h=>absurd h (Nat.lt_irrefl _),Nat.zero_le _,Nat.zero_le _⟩
theorem QeB(l:List UInt8)(b off cap:Nat)(w:World)(hT:Lib.Utf8Tabs 1 2 w)(hc:BytesAt w b off l)(hb:2<b∧b<w.heap.size)(hlen:l.length≤1000000)(hcap:l.length≤cap)(hcm:cap≤maxLen) :
  Calls Tryz.prog 171 #[.slice (some ⟨b,off,none⟩) l.length cap,.bool true] w (UqP l b off cap w (uqM true l)):=by
 have hT':∀w',Below w.heap.size w w'→Lib.Utf8Tabs 1 2 w'∧BytesAt w' b off l∧(2<b∧b<w'.heap.size):=fun w' hB=>⟨Qbg hT (Ext.below (S:=fun _=>False) hB) (fun h=>h) (fun h=>h),fun k hk=>(Ext.below (S:=fun _=>False) hB).cell (p:=⟨b,off+k,none⟩) (fun h=>h) (hc k hk),hb.1,Nat.lt_of_lt_of_le hb.2 hB.size⟩
 have HN:Hid (∀w',Below w.heap.size w w'→∀j,j≤l.length→Calls Tryz.prog 187 #[.slice (some ⟨b,off,none⟩) l.length cap,.int .i64 j] w' (NrP w' j (nrX l j))):=Hi fun w' hB j hj=>QbK l b off cap j w' (hT' w' hB).1 (hT' w' hB).2.1 (hT' w' hB).2.2.2 hlen hj hcap hcm
 have HX:Hid (∀w',Below w.heap.size w w'→∀j,j≤l.length→Calls Tryz.prog 190 #[.slice (some ⟨b,off,none⟩) l.length cap,.int .i64 j] w' (EscP w' (hexE l j))):=Hi fun w' hB j hj=>QfB l b off cap j w' (hT' w' hB).1 (hT' w' hB).2.1 (hT' w' hB).2.2 hlen hj hcap hcm
 have HU:Hid (∀w',Below w.heap.size w w'→∀j,j≤l.length→Calls Tryz.prog 191 #[.slice (some ⟨b,off,none⟩) l.length cap,.int .i64 j] w' (EscP w' (uniE l j))):=Hi fun w' hB j hj=>QfC l b off cap j w' (hT' w' hB).1 (hT' w' hB).2.1 (hT' w' hB).2.2 hlen hj hcap hcm
 clear hT' hT hc hb;have HM:Hid (uqM true l=uqL true l (l.length+1) [] 0):=Hi rfl;generalize uqM true l=Res at *;go_enter Tryz.func171,Tryz.ntmps171
 go_upto_region 5 with(fail)
 obtain⟨w1,hw⟩:∃w1,w.alloc (.cells #[.pointer none,.slice none 0 0] 360)=w1:=⟨_,rfl⟩
 rw[hw];have HQ:Hid (UqRel true l Res w (.int .i64 0) w1):=Hi ⟨l.length+1,[],0,rfl,HM.out.symm,by omega,Nat.zero_le _,Nat.le_refl _,by rw[←hw];exact Qd6 w,by rw[←hw];exact Qab w _⟩;clear hw
 go_loopw [10] (fun s wr=>UqRel true l Res w s wr) (fun s _=>l.length-(intOf s).toNat)
 case atStart=>exact HQ.out
 case round =>
  clear HQ HM;obtain⟨f,acc,i,rfl,hu,hf,hil,hai,hbd,hB⟩:=hrel;obtain⟨f,rfl⟩:∃g,f=g+1:=⟨f-1,by omega⟩
  have HB:=Hi hB;clear hB;have HBD:=Hi hbd;clear hbd;by_cases hlt:i<l.length
  ·go_wp2_with fail
   refine(HN.out _ HB.out i hil).mono ?_;rintro e w2⟨B2,h2⟩;have HB2:Hid (Below w.heap.size w w2):=Hi (HB.out.trans (B2.mono HB.out.size));have HBD2:=Hi (QaS HBD.out B2);clear B2 HB HBD;cases hn:nrX l i with
   | none =>
    rw[hn]at h2;have HR:Hid (none=Res):=Hi ((Qem hlt hn).symm.trans hu);clear hu;obtain⟨T,x,rfl⟩:=h2;clear hn
    go_wp2_with fail
    refine bodyPost_ret (results_tmp3 (t:=4) (u:=5) (v:=6) (by kernel_rfl) _ _ _) rfl ?_;rw[←HR.out];exact⟨HB2.out,_,_,rfl⟩
   | some a =>
    rw[hn]at h2;subst h2;have ha:=QbF hn;have hae:=QhB hn;obtain⟨a1,a2⟩:=a;simp only at ha hae;have HUN:=Hi (And.intro hu hn);clear hu hn;by_cases h92:a1=92
    ·subst h92
     clear hae
     go_wp2_with fail
     refine(HN.out _ HB2.out a2 ha.2.1).mono ?_;rintro e w3⟨B3,h3⟩;have HB3:Hid (Below w.heap.size w w3):=Hi (HB2.out.trans (B3.mono HB2.out.size));have HBD3:=Hi (QaS HBD2.out B3);clear B3 HB2 HBD2;cases hm:nrX l a2 with
     | none =>
      rw[hm]at h3;have HR:Hid (none=Res):=Hi ((uq_e0 hlt HUN.out.2 hm).symm.trans HUN.out.1);obtain⟨T,x,rfl⟩:=h3;clear hm
      go_wp2_with fail
      refine bodyPost_ret (results_tmp3 (t:=4) (u:=5) (v:=6) (by kernel_rfl) _ _ _) rfl ?_;rw[←HR.out];exact⟨HB3.out,_,_,rfl⟩
     | some c =>
      rw[hm]at h3;subst h3;have hc:=QbF hm;obtain⟨b1,b2⟩:=c;simp only at hc;have HM:=Hi hm;clear hm;by_cases q110:b1=110
      ·subst q110
       have HRL:Hid (uqL true l f (acc++enc 10) b2=Res):=Hi ((QcF (c:=10) hlt HUN.out.2 HM.out rfl).symm.trans HUN.out.1);have hle:=Qbe (r:=10) (by decide) (by decide)
       go_wp2_with fail
       refine(Tryz.Builder_WriteRune_k w.heap.size w.heap.size _ 10 (by omega) (by omega) _ HBD3.out (by rw[Lib.byteCells_length];omega) HB3.out.size).mono ?_;rintro e w8⟨rfl,hw8,B8,_⟩;have HEND:=Hi (UqRel.wrote (r:=10) HRL.out (by omega) (by omega) (by omega) HB3.out hw8 B8);clear hw8 B8
       go_wp2_with fail
       go_roundw
       case rel=>exact HEND.out
       case measure=>simp[intOf];omega
      have e110:((b1:Int)==110)=false:=by simp;omega
      have n110:¬(b1:Int)=110:=by omega
      by_cases q114:b1=114
      ·subst q114
       have HRL:Hid (uqL true l f (acc++enc 13) b2=Res):=Hi ((QcF (c:=13) hlt HUN.out.2 HM.out rfl).symm.trans HUN.out.1);have hle:=Qbe (r:=13) (by decide) (by decide)
       go_wp2_with fail
       refine(Tryz.Builder_WriteRune_k w.heap.size w.heap.size _ 13 (by omega) (by omega) _ HBD3.out (by rw[Lib.byteCells_length];omega) HB3.out.size).mono ?_;rintro e w8⟨rfl,hw8,B8,_⟩;have HEND:=Hi (UqRel.wrote (r:=13) HRL.out (by omega) (by omega) (by omega) HB3.out hw8 B8);clear hw8 B8
       go_wp2_with fail
       go_roundw
       case rel=>exact HEND.out
       case measure=>simp[intOf];omega
      have e114:((b1:Int)==114)=false:=by simp;omega
      have n114:¬(b1:Int)=114:=by omega
      by_cases q116:b1=116
      ·subst q116
       have HRL:Hid (uqL true l f (acc++enc 9) b2=Res):=Hi ((QcF (c:=9) hlt HUN.out.2 HM.out rfl).symm.trans HUN.out.1);have hle:=Qbe (r:=9) (by decide) (by decide)
       go_wp2_with fail
       refine(Tryz.Builder_WriteRune_k w.heap.size w.heap.size _ 9 (by omega) (by omega) _ HBD3.out (by rw[Lib.byteCells_length];omega) HB3.out.size).mono ?_;rintro e w8⟨rfl,hw8,B8,_⟩;have HEND:=Hi (UqRel.wrote (r:=9) HRL.out (by omega) (by omega) (by omega) HB3.out hw8 B8);clear hw8 B8
       go_wp2_with fail
       go_roundw
       case rel=>exact HEND.out
       case measure=>simp[intOf];omega
      have e116:((b1:Int)==116)=false:=by simp;omega
      have n116:¬(b1:Int)=116:=by omega
      by_cases q92:b1=92
      ·subst q92
       have HRL:Hid (uqL true l f (acc++enc 92) b2=Res):=Hi ((QcF (c:=92) hlt HUN.out.2 HM.out rfl).symm.trans HUN.out.1);have hle:=Qbe (r:=92) (by decide) (by decide)
       go_wp2_with fail
       refine(Tryz.Builder_WriteRune_k w.heap.size w.heap.size _ 92 (by omega) (by omega) _ HBD3.out (by rw[Lib.byteCells_length];omega) HB3.out.size).mono ?_;rintro e w8⟨rfl,hw8,B8,_⟩;have HEND:=Hi (UqRel.wrote (r:=92) HRL.out (by omega) (by omega) (by omega) HB3.out hw8 B8);clear hw8 B8
       go_wp2_with fail
       go_roundw
       case rel=>exact HEND.out
       case measure=>simp[intOf];omega
      have e92:((b1:Int)==92)=false:=by simp;omega
      have n92:¬(b1:Int)=92:=by omega
      by_cases q48:b1=48
      ·subst q48
       have HRL:Hid (uqL true l f (acc++enc 0) b2=Res):=Hi ((QcF (c:=0) hlt HUN.out.2 HM.out rfl).symm.trans HUN.out.1);have hle:=Qbe (r:=0) (by decide) (by decide)
       go_wp2_with fail
       refine(Tryz.Builder_WriteRune_k w.heap.size w.heap.size _ 0 (by omega) (by omega) _ HBD3.out (by rw[Lib.byteCells_length];omega) HB3.out.size).mono ?_;rintro e w8⟨rfl,hw8,B8,_⟩;have HEND:=Hi (UqRel.wrote (r:=0) HRL.out (by omega) (by omega) (by omega) HB3.out hw8 B8);clear hw8 B8
       go_wp2_with fail
       go_roundw
       case rel=>exact HEND.out
       case measure=>simp[intOf];omega
      have e48:((b1:Int)==48)=false:=by simp;omega
      have n48:¬(b1:Int)=48:=by omega
      by_cases q39:b1=39
      ·subst q39
       have HRL:Hid (uqL true l f (acc++enc 39) b2=Res):=Hi ((QcF (c:=39) hlt HUN.out.2 HM.out rfl).symm.trans HUN.out.1);have hle:=Qbe (r:=39) (by decide) (by decide)
       go_wp2_with fail
       refine(Tryz.Builder_WriteRune_k w.heap.size w.heap.size _ 39 (by omega) (by omega) _ HBD3.out (by rw[Lib.byteCells_length];omega) HB3.out.size).mono ?_;rintro e w8⟨rfl,hw8,B8,_⟩;have HEND:=Hi (UqRel.wrote (r:=39) HRL.out (by omega) (by omega) (by omega) HB3.out hw8 B8);clear hw8 B8
       go_wp2_with fail
       go_roundw
       case rel=>exact HEND.out
       case measure=>simp[intOf];omega
      have e39:((b1:Int)==39)=false:=by simp;omega
      have n39:¬(b1:Int)=39:=by omega
      by_cases q34:b1=34
      ·subst q34
       have HRL:Hid (uqL true l f (acc++enc 34) b2=Res):=Hi ((QcF (c:=34) hlt HUN.out.2 HM.out rfl).symm.trans HUN.out.1);have hle:=Qbe (r:=34) (by decide) (by decide)
       go_wp2_with fail
       refine(Tryz.Builder_WriteRune_k w.heap.size w.heap.size _ 34 (by omega) (by omega) _ HBD3.out (by rw[Lib.byteCells_length];omega) HB3.out.size).mono ?_;rintro e w8⟨rfl,hw8,B8,_⟩;have HEND:=Hi (UqRel.wrote (r:=34) HRL.out (by omega) (by omega) (by omega) HB3.out hw8 B8);clear hw8 B8
       go_wp2_with fail
       go_roundw
       case rel=>exact HEND.out
       case measure=>simp[intOf];omega
      have e34:((b1:Int)==34)=false:=by simp;omega
      have n34:¬(b1:Int)=34:=by omega
      by_cases q120:b1=120
      ·subst q120
       go_wp2_with fail
       refine(HX.out _ HB3.out b2 hc.2.1).mono ?_;rintro e w4⟨B4,h4⟩;have HB4:Hid (Below w.heap.size w w4):=Hi (HB3.out.trans (B4.mono HB3.out.size));have HBD4:=Hi (QaS HBD3.out B4);clear B4 HB3 HBD3;have HRX:=Hi ((uq_x hlt HUN.out.2 HM.out).symm.trans HUN.out.1);cases hx:hexE l b2 with
       | none =>
        rw[hx]at h4;have HR:Hid (none=Res):=Hi (by have:=HRX.out;rw[hx]at this;exact this);obtain⟨v9,i9,T,x,rfl⟩:=h4;clear hx
        go_wp2_with fail
        refine bodyPost_ret (results_tmp3 (t:=4) (u:=5) (v:=6) (by kernel_rfl) _ _ _) rfl ?_;rw[←HR.out];exact⟨HB4.out,_,_,rfl⟩
       | some r =>
        rw[hx]at h4;subst h4;have hr:=Qek hx;have HRL:Hid (uqL true l f (acc++enc r.1) r.2=Res):=Hi (by have:=HRX.out;rw[hx]at this;exact this);obtain⟨r1,r2⟩:=r;simp only at hr;have hr1:0≤r1∧r1≤1114111:=by omega
        have hle:(enc r1).length≤1:=Qbe hr.2.2.1 hr.2.2.2;clear hx
        go_wp2_with fail
        refine(Tryz.Builder_WriteRune_k w.heap.size w.heap.size _ r1 (by omega) (by omega) _ HBD4.out (by rw[Lib.byteCells_length];omega) HB4.out.size).mono ?_;rintro e w8⟨rfl,hw8,B8,_⟩;have HEND:=Hi (UqRel.wrote (r:=r1) HRL.out (by omega) (by omega) (by omega) HB4.out hw8 B8);clear hw8 B8
        go_wp2_with fail
        go_roundw
        case rel=>exact HEND.out
        case measure=>simp[intOf];omega
      have e120:((b1:Int)==120)=false:=by simp;omega
      have n120:¬(b1:Int)=120:=by omega
      by_cases q117:b1=117
      ·subst q117
       go_wp2_with fail
       refine(HU.out _ HB3.out b2 hc.2.1).mono ?_;rintro e w4⟨B4,h4⟩;have HB4:Hid (Below w.heap.size w w4):=Hi (HB3.out.trans (B4.mono HB3.out.size));have HBD4:=Hi (QaS HBD3.out B4);clear B4 HB3 HBD3;have HRX:=Hi ((uq_u hlt HUN.out.2 HM.out).symm.trans HUN.out.1);cases hx:uniE l b2 with
       | none =>
        rw[hx]at h4;have HR:Hid (none=Res):=Hi (by have:=HRX.out;rw[hx]at this;exact this);obtain⟨v9,i9,T,x,rfl⟩:=h4;clear hx
        go_wp2_with fail
        refine bodyPost_ret (results_tmp3 (t:=4) (u:=5) (v:=6) (by kernel_rfl) _ _ _) rfl ?_;rw[←HR.out];exact⟨HB4.out,_,_,rfl⟩
       | some r =>
        rw[hx]at h4;subst h4;have hr:=Qel hx;have HRL:Hid (uqL true l f (acc++enc r.1) r.2=Res):=Hi (by have:=HRX.out;rw[hx]at this;exact this);obtain⟨r1,r2⟩:=r;simp only at hr;have hr1:0≤r1∧r1≤1114111:=Qdc hr.2.2;have hle:(enc r1).length≤4:=QhA r1;clear hx
        go_wp2_with fail
        refine(Tryz.Builder_WriteRune_k w.heap.size w.heap.size _ r1 (by omega) (by omega) _ HBD4.out (by rw[Lib.byteCells_length];omega) HB4.out.size).mono ?_;rintro e w8⟨rfl,hw8,B8,_⟩;have HEND:=Hi (UqRel.wrote (r:=r1) HRL.out (by omega) (by omega) (by omega) HB4.out hw8 B8);clear hw8 B8
        go_wp2_with fail
        go_roundw
        case rel=>exact HEND.out
        case measure=>simp[intOf];omega
      have e117:((b1:Int)==117)=false:=by simp;omega
      have n117:¬(b1:Int)=117:=by omega
      have hne:esc1 b1=none:=by unfold esc1;simp[q110,q114,q116,q92,q48,q39,q34]
      by_cases q42:b1=42
      ·subst q42
       have HRL:Hid (uqL true l f (acc++enc 42) b2=Res):=Hi ((uq_s hlt HUN.out.2 HM.out).symm.trans HUN.out.1);have hle:=Qbe (r:=42) (by decide) (by decide);clear hne
       go_wp2_with fail
       refine(Tryz.Builder_WriteRune_k w.heap.size w.heap.size _ 42 (by omega) (by omega) _ HBD3.out (by rw[Lib.byteCells_length];omega) HB3.out.size).mono ?_;rintro e w8⟨rfl,hw8,B8,_⟩;have HEND:=Hi (UqRel.wrote (r:=42) HRL.out (by omega) (by omega) (by omega) HB3.out hw8 B8);clear hw8 B8
       go_wp2_with fail
       go_roundw
       case rel=>exact HEND.out
       case measure=>simp[intOf];omega
      ·have e42:((b1:Int)==42)=false:=by simp;omega
       have n42:¬(b1:Int)=42:=by omega
       have HR:Hid (none=Res):=Hi ((QhF hlt HUN.out.2 HM.out hne q120 q117 (fun h=>q42 h.1)).symm.trans HUN.out.1);clear hne q110 q114 q116 q92 q48 q39 q34 q120 q117 q42
       go_wp2_with fail
       refine(QaV _ _).mono ?_;rintro e w9⟨T,x,rfl,B9⟩;have HB9:=Hi B9;clear B9
       go_wp2_with fail
       refine bodyPost_ret (results_tmp3 (t:=4) (u:=5) (v:=6) (by kernel_rfl) _ _ _) rfl ?_;rw[←HR.out];exact⟨HB3.out.trans (HB9.out.mono HB3.out.size),_,_,rfl⟩
    ·have e92:((a1:Int)==92)=false:=by simp;omega
     have n92:¬(a1:Int)=92:=by omega
     by_cases hs:a1=42
     ·subst hs
      have HR:Hid (some (acc,a2-1)=Res):=Hi ((uq_star hlt HUN.out.2).symm.trans HUN.out.1);clear HUN;obtain⟨k,rfl⟩:∃k,a2=k+1:=⟨a2-1,by omega⟩
      have g1:¬cap=k:=by omega
      go_upto_region 11 with(fail)
      have HD:=Hi (show Lib.IsBuilderF 360 5 w.heap.size w.heap.size (Lib.byteCells acc) w2.drew from HBD2.out);have HZ:=Hi (show w.heap.size≤w2.drew.heap.size from HB2.out.size);have HBw:Hid (Below w.heap.size w w2.drew):=Hi ⟨HB2.out.os,HB2.out.tape,HB2.out.output,HB2.out.size,HB2.out.block⟩
      go_region_with(go_at_call 188;refine(Tryz.Builder_String_any_k w.heap.size w.heap.size acc w2.drew HD.out HZ.out).mono ?_;rintro e w3 ⟨rfl,_,B3,_⟩)
      all_goals
       go_wp2;refine bodyPost_ret (results_tmp3 (t:=4) (u:=5) (v:=6) (by kernel_rfl) _ _ _) rfl ?_;rw[←HR.out];exact⟨HBw.out.trans B3,by simp only;omega,by simp only;omega,off+k,cap-k,rfl,fun _=>rfl,by simp only;omega,by omega⟩
     ·have e42:((a1:Int)==42)=false:=by simp;omega
      have n42:¬(a1:Int)=42:=by omega
      have HRL:Hid (uqL true l f (acc++enc a1) a2=Res):=Hi ((QfD hlt HUN.out.2 (fun h=>hs h.2) h92).symm.trans HUN.out.1)
      go_wp2_with fail
      refine(Tryz.Builder_WriteRune_k w.heap.size w.heap.size _ (a1:Int) (by omega) (by omega) _ HBD2.out (by rw[Lib.byteCells_length];omega) HB2.out.size).mono ?_;rintro e w8⟨rfl,hw8,B8,_⟩;have HEND:=Hi (UqRel.wrote (r:=(a1:Int)) HRL.out (by omega) (by omega) (by omega) HB2.out hw8 B8);clear hw8 B8
      go_wp2_with fail
      go_roundw
      case rel=>exact HEND.out
      case measure=>simp[intOf];omega
  ·obtain rfl:i=l.length:=by omega
   have HR:Hid (some (acc,l.length)=Res):=Hi ((QhE hlt).symm.trans hu);clear hu;by_cases g1:cap=l.length
   all_goals
    go_upto_region 47 with(fail)
    have HD:=Hi (show Lib.IsBuilderF 360 5 w.heap.size w.heap.size (Lib.byteCells acc) wr.drew from HBD.out);have HZ:=Hi (show w.heap.size≤wr.drew.heap.size from HB.out.size);have HBw:Hid (Below w.heap.size w wr.drew):=Hi ⟨HB.out.os,HB.out.tape,HB.out.output,HB.out.size,HB.out.block⟩
    go_region_with(go_at_call 188;refine(Tryz.Builder_String_any_k w.heap.size w.heap.size acc wr.drew HD.out HZ.out).mono ?_;rintro e w3 ⟨rfl,_,B3,_⟩)
    all_goals
     go_wp2;refine bodyPost_ret (results_tmp3 (t:=4) (u:=5) (v:=6) (by kernel_rfl) _ _ _) rfl ?_;rw[←HR.out];refine⟨HBw.out.trans B3,Nat.le_refl _,by simp only;omega,?_⟩;simp only[Nat.sub_self]
     first
      | exact⟨_,_,rfl,fun h=>absurd h (Nat.lt_irrefl _),Nat.zero_le _,by omega⟩
      | exact⟨_,_,rfl,fun h=>absurd h (Nat.lt_irrefl _),Nat.zero_le _,Nat.zero_le _⟩
def strM(s:ByteArray):Option ByteArray:=(uqM false (Qdn s).data.toList).map fun r=>⟨r.1.toArray⟩
theorem Qdl(l p:List UInt8):(Lib.trimPrefix l p).length≤l.length:=by
 unfold Lib.trimPrefix;split
 ·rw[List.length_drop];omega
 ·exact Nat.le_refl _
theorem Qeo(l p:List UInt8):(Lib.trimSuffix l p).length≤l.length:=by
 unfold Lib.trimSuffix;split
 ·rw[List.length_take];omega
 ·exact Nat.le_refl _
theorem trim_le(s:ByteArray):(⟨(Lib.trimPrefix s.data.toList [34]).toArray⟩:ByteArray).size≤s.size:=by
 have:=Qdl s.data.toList [34];show(Lib.trimPrefix s.data.toList [34]).toArray.size≤s.data.size;simpa using this
@[go_sem] theorem conv978(s:ByteArray)(w:World):(convert 9 78 (.string s)).run Tryz.prog w=.ok (.slice (some ⟨w.heap.size,0,none⟩) s.size (grownCap w s.size 0 5)) (w.drew.alloc (.cells (bytesRow s (grownCap w s.size 0 5)) 5 ((bytesRow s (grownCap w s.size 0 5)).size,(bytesRow s (grownCap w s.size 0 5)).size+1))) :=
 run_bytes_of_string w 9 78 5 s Tryz.underlying9 Tryz.underlying78 Tryz.underlying5
theorem QeC(W:World)(s:ByteArray)(cap blk:Nat)(fr:Nat×Nat)(hb:W.heap.size=blk):BytesAt (W.alloc (.cells (bytesRow s cap) 5 fr)).drew blk 0 s.data.toList:=by
 subst hb;intro j hj;have hlen:j<s.data.size:=by simpa using hj
 refine Qaa (w:=W.alloc (.cells (bytesRow s cap) 5 fr)) (heap_alloc_new W _) ?_;rw[Nat.zero_add,bytesRow,Array.getElem?_append_left (by simpa using hlen)];simp[List.getD_eq_getElem?_getD,hlen];exact⟨_,Array.getElem?_eq_getElem hlen,by rw[Array.getElem?_eq_getElem hlen];rfl⟩
theorem str_c(t:Tok)(w:World)(hG:Glob w)(h15:15≤w.heap.size)(hz:t.tx.size≤1000000):Calls Tryz.prog 138 #[t.val] w (StrV w (strM t.tx)):=by
 have hlen:(Lib.trimSuffix (Lib.trimPrefix t.tx.data.toList [34]) [34]).length≤1000000:=by
  have h1:=Qeo (Lib.trimPrefix t.tx.data.toList [34]) [34];have h2:=Qdl t.tx.data.toList [34];have h3:t.tx.data.toList.length=t.tx.size:=rfl;omega
 have HST:Hid (strM t.tx=(uqM false (Lib.trimSuffix (Lib.trimPrefix t.tx.data.toList [34]) [34])).map fun r=>⟨r.1.toArray⟩):=Hi rfl;have HTL:=Hi (trim_le t.tx);go_enter Tryz.func138,Tryz.ntmps138
 go_wp2_with fail
 refine(Tryz.strings_TrimPrefix _ _ _).mono ?_;rintro e w1⟨rfl,rfl⟩
 go_wp2_with fail
 refine(Tryz.strings_TrimSuffix _ _ _ (by have:=HTL.out;omega)).mono ?_;rintro e w1⟨rfl,rfl⟩
 go_upto_region 5 with(fail)
 refine Qba fun w1 hw1=>?_
 generalize Lib.trimSuffix (Lib.trimPrefix t.tx.data.toList [34]) [34]=l at *;have B1:Below w.heap.size w w1:=by rw[hw1];exact((Ext.below (S:=fun _=>False) (((Qab w _).alloc (by simp) _))).drew).toBelow (fun _ h=>h.elim) (Nat.le_refl _)
 have hz1:w1.heap.size=w.heap.size+2:=by rw[hw1];simp
 have hb1:BytesAt w1 (w.heap.size+1) 0 l:=by
  rw[hw1];exact QeC (w.alloc _) ⟨l.toArray⟩ _ _ _ (by simp)
 have hcg:=grownCap_ge (w.alloc (.cells #[.int .i64 t.ty,.string t.fn,.int .i64 t.off,.int .i64 t.ln,.int .i64 t.col,.string t.tx] 122)) l.length 0 5;have hcm:=grownCap_le_maxLen (w.alloc (.cells #[.int .i64 t.ty,.string t.fn,.int .i64 t.off,.int .i64 t.ln,.int .i64 t.col,.string t.tx] 122)) l.length 0 5 (by unfold maxLen;omega);generalize grownCap (w.alloc (.cells #[.int .i64 t.ty,.string t.fn,.int .i64 t.off,.int .i64 t.ln,.int .i64 t.col,.string t.tx] 122)) l.length 0 5=cp at *
 clear hw1;have HUQ:=Hi (Qen l (w.heap.size+1) 0 cp w1 (hG.ext (S:=fun _=>False) (.below B1) (fun d h=>h.elim) h15).tabs hb1 ⟨by omega,by omega⟩ hlen hcg hcm);clear hb1 hG
 go_wp2_with fail
 refine HUQ.out.mono ?_;rintro e w2⟨B2,h2⟩;have HB:=Hi (B1.trans (B2.mono B1.size));clear B1 B2;cases hu:uqM false l with
 | none =>
  rw[hu]at h2;have HR:Hid (strM t.tx=none):=Hi (by rw[HST.out,hu];rfl);obtain⟨T,x,rfl⟩:=h2;clear hu
  go_wp2_with fail
  go_ret2
  rw[HR.out];exact⟨HB.out,_,_,_,rfl⟩
 | some r =>
  rw[hu]at h2;have HR:Hid (strM t.tx=some ⟨r.1.toArray⟩):=Hi (by rw[HST.out,hu];rfl);obtain⟨h3,h4,o,c,rfl,_⟩:=h2;have HL:=Hi h4;clear hu h4
  go_wp2_with fail
  go_ret2
  rw[HR.out];refine⟨HB.out,rfl,?_⟩;show r.1.toArray.size≤1000000;have:=HL.out;simp;omega
@[go_sem] theorem tn131b(t:TypeId)(v:Value)(ht:¬t=131)(w:World):(Instr.typeAssert (.iface t v) 20 131 true).run Tryz.prog w=.ok (.tuple #[.string ⟨#[]⟩,.bool false]) w :=
 QaU Tryz.underlying131 (by rintro ⟨_,h⟩;cases h) Tryz.zeroValue131 20 t v ht w
@[go_sem] theorem ty131b(v:Value)(w:World):(Instr.typeAssert (.iface 131 v) 20 131 true).run Tryz.prog w=.ok (.tuple #[v,.bool true]) w :=
 Qa4 Tryz.underlying131 (by rintro ⟨_,h⟩;cases h) 20 v w
@[go_sem] theorem ty388b(v:Value)(w:World):(Instr.typeAssert (.iface 388 v) 20 388 true).run Tryz.prog w=.ok (.tuple #[v,.bool true]) w :=
 Qa4 Tryz.underlying388 (by rintro ⟨_,h⟩;cases h) 20 v w
def Qfl:Option ByteArray→Value
 | none=>.iface 388 (.agg #[])
 | some s=>.iface 131 (.string s)
abbrev Pats:=List (Bool×ByteArray)
def QcG(acc:Pats):Option ByteArray→Pats
 | some s=>match acc.getLast? with
  | none=>[(false,s)]
  | some p=>acc.dropLast++[(p.1,p.2++s)]
 | none=>match acc.getLast? with
  | none=>[(true,⟨#[]⟩)]
  | some p=>if p.2.toList=[]then acc else acc++[(true,⟨#[]⟩)]
def npM(l:List (Option ByteArray)):Pats:=l.foldl QcG []
def Qbt(l:Pats):List Value:=l.flatMap fun p=>[.bool p.1,.string p.2]
theorem QbW(l:Pats):(Qbt l).length=l.length*2:=by
 induction l with
 | nil=>rfl
 | cons p l ih=>rw[Qbt,List.flatMap_cons,List.length_append];show 2+(Qbt l).length=_;rw[ih,List.length_cons];omega
theorem Qce(a b:Pats):Qbt (a++b)=Qbt a++Qbt b:=by simp[Qbt]
theorem QdN:∀(l:Pats)(i:Nat),i<l.length→(Qbt l)[i*2]? =some (.bool (l.getD i (false,⟨#[]⟩)).1)∧(Qbt l)[i*2+1]? =some (.string (l.getD i (false,⟨#[]⟩)).2)
 | [],i,h=>by simp at h
 | p::l,0,_=>⟨rfl,rfl⟩
 | p::l,i+1,h=>by
  have:=QdN l i (by simpa using h);rw[show Qbt (p::l)=.bool p.1::.string p.2::Qbt l from rfl,show(i+1)*2=i*2+1+1 by omega];simpa using this
def NpRel(w0:World)(cs:List (Option ByteArray))(s3 s12:Value)(wr:World):Prop :=
 ∃i,s12=.int .i64 ((i:Nat):Int)∧i≤cs.length∧wr.ownsRow (w0.heap.size+1) 316 2 s3 (npM (cs.take i)).length (Qbt (npM (cs.take i)))∧Below w0.heap.size w0 wr∧wr.heap[w0.heap.size]? =some (.cells #[.slice none 0 0] 197 (0,0))∧(npM (cs.take i)).length≤i∧∀p∈npM (cs.take i),p.2.size≤i*1000000
theorem npM_take{cs:List (Option ByteArray)}{i:Nat}{c:Option ByteArray}(h:cs[i]? =some c):npM (cs.take (i+1))=QcG (npM (cs.take i)) c:=by
 rw[List.take_add_one,h,npM,npM,List.foldl_append];rfl
theorem own_last{w:World}{B g cap:Nat}{A:Pats}{p:Bool×ByteArray}(h:w.ownsRow B 316 2 (.slice (some ⟨g,0,none⟩) (A.length+1) cap) (A.length+1) (Qbt (A++[p])))(s:ByteArray) :
  (w.setCell ⟨g,A.length*2+1,none⟩ (.string s)).ownsRow B 316 2 (.slice (some ⟨g,0,none⟩) (A.length+1) cap) (A.length+1) (Qbt (A++[(p.1,s)])):=by
 obtain⟨h1,⟨h2,_⟩ | ⟨g',cap',cur,hv,a,b,c,d,e,f⟩⟩:=h
 ·cases h2
 ·cases hv
  refine⟨by rw[QbW,List.length_append];rfl,.inr ⟨g,cap,_,rfl,a,Qac b _,c,d,by simpa using e,?_⟩⟩;apply List.ext_getElem?;intro j;have hf:∀j:Nat,(cur.toList.take ((A.length+1)*2))[j]? =(Qbt (A++[p]))[j]? := fun j=>by rw[f]
  have hj:=hf j;have hl:=QbW A;by_cases hlt:j<(A.length+1)*2
  ·rw[List.getElem?_take_of_lt hlt]at hj ⊢
   rw[Qce]at hj ⊢;by_cases hje:j=A.length*2+1
   ·subst hje
    rw[List.getElem?_append_right (by omega),hl,show A.length*2+1-A.length*2=1 by omega];simp only[Array.getElem?_toList,Array.getElem?_setIfInBounds_self];rw[if_pos (by omega)];rfl
   ·simp only[Array.getElem?_toList]at hj ⊢
    rw[Array.getElem?_setIfInBounds_ne (by omega),hj];by_cases hja:j<A.length*2
    ·rw[List.getElem?_append_left (by omega),List.getElem?_append_left (by omega)]
    ·obtain rfl:j=A.length*2:=by omega
     rw[List.getElem?_append_right (by omega),List.getElem?_append_right (by omega),hl,Nat.sub_self];rfl
  ·rw[List.getElem?_eq_none (by rw[List.length_take];omega),List.getElem?_eq_none (by rw[QbW,List.length_append];simp;omega)]
theorem QeD{w:World}{B g cap:Nat}{A:Pats}{p:Bool×ByteArray}(h:w.ownsRow B 316 2 (.slice (some ⟨g,0,none⟩) (A.length+1) cap) (A.length+1) (Qbt (A++[p]))) :
  w.cell? ⟨g,A.length*2+1,none⟩=some (.string p.2)∧w.frozen? ⟨g,A.length*2+1,none⟩=false∧B≤g∧A.length+1≤cap∧g<w.heap.size:=by
 obtain⟨h1,⟨h2,_⟩ | ⟨g',cap',cur,hv,a,b,c,d,e,f⟩⟩:=h
 ·cases h2
 ·cases hv
  refine⟨Qaa b ?_,Qae b _,a,c,Qad b⟩;have hf:(cur.toList.take ((A.length+1)*2))[A.length*2+1]? =(Qbt (A++[p]))[A.length*2+1]? := by rw[f]
  rw[List.getElem?_take_of_lt (by omega),Qce,List.getElem?_append_right (by rw[QbW];omega),QbW,show A.length*2+1-A.length*2=1 by omega,Array.getElem?_toList]at hf;exact hf
theorem newPat_c(w:World)(B:Nat)(v:Value)(cs:List (Option ByteArray))(ho:w.ownsRow B 20 1 v cs.length (cs.map Qfl))(hn:cs.length≤10000000)(hss:∀s,some s∈cs→s.size≤1000000) :
  Calls Tryz.prog 242 #[v] w fun e w'=>Below w.heap.size w w'∧∃p c,e=.returned (.agg #[.slice p (npM cs).length c])∧Row2At w' w.heap.size 316 p (npM cs).length (fun i=>.bool ((npM cs).getD i (false,⟨#[]⟩)).1) (fun i=>.string ((npM cs).getD i (false,⟨#[]⟩)).2):=by
 obtain⟨p0,c0,rfl,hrow⟩:=RwU.own ho;have HRW:=Hi hrow.2;clear hrow ho;go_enter Tryz.func242,Tryz.ntmps242
 go_upto_region 3 with(fail)
 obtain⟨w1,hw⟩:∃w1,w.alloc (.cells #[.slice none 0 0] 197)=w1:=⟨_,rfl⟩
 rw[hw];have HQ:Hid (NpRel w cs (.slice none 0 0) (.int .i64 0) w1):=Hi ⟨0,rfl,Nat.zero_le _,⟨rfl,.inl ⟨rfl,rfl⟩⟩,by rw[←hw];exact Qab w _,by rw[←hw];exact heap_alloc_new w _,Nat.le_refl _,fun p hp=>by simp[npM]at hp⟩;clear hw;have HSS:=Hi hss;clear hss
 go_loopw [3,12] (fun s3 s12 wr=>NpRel w cs s3 s12 wr) (fun _ s12 _=>cs.length-(intOf s12).toNat)
 case atStart=>exact HQ.out
 case round =>
  clear HQ;obtain⟨i,rfl,hi,hO,hB,hR,hle,hpz⟩:=hrel;have HPZ:=Hi hpz;clear hpz;have HO:=Hi hO;clear hO;have HB:=Hi hB;clear hB;have HR:=Hi hR;clear hR;by_cases hlt:i<cs.length
  ·obtain⟨b,off,c,fr,rfl,hUb,hcb,hcc⟩:=HRW.out.resolve_left (by omega)
   obtain⟨x,hx⟩:∃x,cs[i]? =some x:=⟨cs[i],by simp[hlt]⟩
   have hst:=npM_take hx;have hci:wr.cell? ⟨b,off+i,none⟩=some (Qfl x):=Qaa ((HB.out.block b (Qad hcb)).trans hcb) ((hcc i (by omega)).trans (by simp[hx]));have hsz:∀s,x=some s→s.size≤1000000:=fun s h=>HSS.out s (List.mem_of_getElem? (hx.trans (congrArg some h)))
   clear hcb hcc hx;generalize npM (cs.take i)=A at *;have hsw:=HB.out.size;have hlr:=Qad HR.out;rcases List.eq_nil_or_concat A with rfl | ⟨A,q,rfl⟩
   ·obtain⟨p3,c3,rfl,_⟩:=RwU.own HO.out
    simp only[List.length_nil]at hle;cases x with
    | some s =>
     unfold Qfl at hci;have hss:=hsz s rfl;have hst':npM (cs.take (i+1))=[(false,s)]:=hst;have HS:=Hi hst';clear hst hst' hsz;have HE:Hid ((⟨#[]⟩:ByteArray)++s=s):=Hi (by apply ByteArray.ext;simp);have hz0:(⟨#[]⟩:ByteArray).size≤0:=Nat.le_refl 0
     go_wp2_with fail
     go_roundw
     case rel =>
      refine⟨i+1,by go_num,by omega,?_,HB.out.alloc hsw _,Qaf HR.out _,by rw[HS.out];simp,fun p hp=>?_⟩
      ·rw[HS.out]
       refine⟨rfl,.inr ⟨wr.heap.size,1,_,rfl,by omega,heap_alloc_new wr _,Nat.le_refl _,by decide,rfl,?_⟩⟩;simp[Qbt,HE.out]
      ·rw[HS.out,List.mem_singleton]at hp
       subst hp;simp only;omega
     case measure=>simp[intOf];omega
    | none =>
     unfold Qfl at hci;have hst':npM (cs.take (i+1))=[(true,⟨#[]⟩)]:=hst;have HS:=Hi hst';clear hst hst' hsz
     go_upto_region 21 with(fail)
     refine Qba fun w1 hw1=>?_
     have B1:Below wr.heap.size wr w1:=by rw[hw1];exact Qab wr _
     clear hw1;have hz1:=B1.size;have BA:Below wr.heap.size wr (w1.alloc (.cells #[.bool true,.string ⟨#[]⟩] 316)):=B1.alloc hz1 _;have hnew:=heap_alloc_new w1 (.cells #[.bool true,.string ⟨#[]⟩] 316);have hOa:=Qaj (S:=fun _=>False) HO.out (.below BA) (fun _ h=>h.elim);have hRa:=(BA.block _ hlr).trans HR.out;have hBa:=HB.out.trans (BA.mono hsw);have HAll:=Hi (And.intro hOa (And.intro hnew (And.intro hRa hBa)))
     clear hOa hnew hRa hBa BA B1
     go_wp2_with(at_builtin;refine appG sl195 rfl _ _ rfl (w.heap.size+1) _ _ _ rfl HAll.out.1 _ [.bool true,.string ⟨#[]⟩] rfl rfl (fun j u hj=>Qaa HAll.out.2.1 (by simpa using hj)) (fun v hv=>by simp at hv;rcases hv with rfl | rfl<;>rfl) (by unfold maxLen;first | omega | (simp<;>omega)) (by first | omega | (simp<;>omega)) (by first | omega | (simp<;>omega)) ?_)
     intro v9 w9 hO9 hg9 _;have hB9:Below w.heap.size w w9:=(Ext.grow (S:=fun _=>False) (.below HAll.out.2.2.2) HAll.out.1 hg9 (by omega)).toBelow (fun _ h=>h.elim) (Nat.le_refl _);have hR9:=QaL HAll.out.2.2.1 HAll.out.1 hg9 (by omega);have HEND:=Hi (And.intro hO9 (And.intro hB9 hR9));clear hO9 hB9 hR9 hg9
     go_wp2_with fail
     go_roundw
     case rel=>exact⟨i+1,by go_num,by omega,by rw[HS.out];exact HEND.out.1,HEND.out.2.1,HEND.out.2.2,by rw[HS.out];simp,fun p hp=>by rw[HS.out,List.mem_singleton]at hp;subst hp;exact Nat.zero_le _⟩
     case measure=>simp[intOf];omega
   ·simp only[List.concat_eq_append]at *
    have hqz:=HPZ.out q (by simp);rw[List.length_append,List.length_singleton]at HO hle;obtain⟨p3,c3,rfl,hr3⟩:=RwU.own HO.out;obtain⟨g,rfl⟩:∃g,p3=some ⟨g,0,none⟩:=by
     rcases HO.out.2 with⟨h,_⟩ | ⟨g,_,_,h,_⟩
     ·cases h
     ·cases h;exact⟨g,rfl⟩
    obtain⟨k1,k2,k3,k4,k5⟩:=QeD HO.out;clear hr3;cases x with
    | some s =>
     unfold Qfl at hci;have hss:=hsz s rfl;have hst':npM (cs.take (i+1))=A++[(q.1,q.2++s)]:=by rw[hst];simp[QcG]
     have HS:=Hi hst';clear hst hst' hsz;have HO2:=Hi (own_last HO.out (q.2++s));have HR2:=Hi (Qag (o:=A.length*2+1) (d:=g) HR.out (by omega) (.string (q.2++s)));have HB2:=Hi (((Ext.below (S:=fun _=>False) HB.out).set (p:=⟨g,A.length*2+1,none⟩) (.inr (by simp only;omega)) (.string (q.2++s))).toBelow (fun _ h=>h.elim) (Nat.le_refl _));have hsum:q.2.size+s.size≤100000000000000:=by omega
     go_wp2_with fail
     go_roundw
     case rel =>
      refine⟨i+1,by go_num,by omega,by rw[HS.out,List.length_append];exact HO2.out,HB2.out,HR2.out,by rw[HS.out];simp;omega,fun p hp=>?_⟩;rw[HS.out]at hp;rcases List.mem_append.1 hp with hp | hp
      ·exact Nat.le_trans (HPZ.out p (by simp[hp])) (Nat.mul_le_mul_right _ (Nat.le_succ i))
      ·rw[List.mem_singleton]at hp
       subst hp;simp only[ByteArray.size_append];omega
     case measure=>simp[intOf];omega
    | none =>
     unfold Qfl at hci;by_cases hq:q.2.toList=[]
     ·have hst':npM (cs.take (i+1))=A++[q]:=by rw[hst];simp[QcG,hq]
      have HS:=Hi hst';clear hst hst' hsz;have hq2:(!q.2.toList.isEmpty)=false:=by rw[hq];rfl
      go_wp2_with fail
      go_roundw
      case rel=>exact⟨i+1,by go_num,by omega,by rw[HS.out,List.length_append];exact Qaj (S:=fun _=>False) HO.out (.below (Qab wr _)) (fun _ h=>h.elim),HB.out.alloc hsw _,Qaf HR.out _,by rw[HS.out];simp;omega,fun p hp=>by rw[HS.out]at hp;exact Nat.le_trans (HPZ.out p (by simpa using hp)) (Nat.mul_le_mul_right _ (Nat.le_succ i))⟩
      case measure=>simp[intOf];omega
     ·have hst':npM (cs.take (i+1))=(A++[q])++[(true,⟨#[]⟩)]:=by rw[hst];simp[QcG,hq]
      have HS:=Hi hst';clear hst hst' hsz;have hq2:(!q.2.toList.isEmpty)=true:=by
       cases h:q.2.toList with
       | nil=>exact absurd h hq
       | cons a l=>rfl
      have k1':∀o,(wr.alloc o).cell? ⟨g,A.length*2+1,none⟩=some (.string q.2):=fun o=>(Ext.below (S:=fun _=>False) (Qab wr o)).cell (fun h=>h) k1
      go_upto_region 21 with(fail)
      refine Qba fun w1 hw1=>?_
      have B1:Below wr.heap.size wr w1:=by rw[hw1];exact Qab wr _
      clear hw1;have hz1:=B1.size;have BA:Below wr.heap.size wr (w1.alloc (.cells #[.bool true,.string ⟨#[]⟩] 316)):=B1.alloc hz1 _;have hnew:=heap_alloc_new w1 (.cells #[.bool true,.string ⟨#[]⟩] 316);have hOa:=Qaj (S:=fun _=>False) HO.out (.below BA) (fun _ h=>h.elim);have hRa:=(BA.block _ hlr).trans HR.out;have hBa:=HB.out.trans (BA.mono hsw);have HAll:=Hi (And.intro hOa (And.intro hnew (And.intro hRa hBa)))
      clear hOa hnew hRa hBa BA B1
      go_wp2_with(at_builtin;refine appG sl195 rfl _ _ rfl (w.heap.size+1) _ _ _ rfl HAll.out.1 _ [.bool true,.string ⟨#[]⟩] rfl rfl (fun j u hj=>Qaa HAll.out.2.1 (by simpa using hj)) (fun v hv=>by simp at hv;rcases hv with rfl | rfl<;>rfl) (by unfold maxLen;first | omega | (simp<;>omega)) (by first | omega | (simp<;>omega)) (by first | omega | (simp<;>omega)) ?_)
      intro v9 w9 hO9 hg9 _;have hB9:Below w.heap.size w w9:=(Ext.grow (S:=fun _=>False) (.below HAll.out.2.2.2) HAll.out.1 hg9 (by omega)).toBelow (fun _ h=>h.elim) (Nat.le_refl _);have hR9:=QaL HAll.out.2.2.1 HAll.out.1 hg9 (by omega);have HEND:=Hi (And.intro hO9 (And.intro hB9 hR9));clear hO9 hB9 hR9 hg9
      go_wp2_with fail
      go_roundw
      case rel =>
       refine⟨i+1,by go_num,by omega,by rw[HS.out,List.length_append,List.length_append,Qce];exact HEND.out.1,HEND.out.2.1,HEND.out.2.2,by rw[HS.out];simp;omega,fun p hp=>?_⟩;rw[HS.out]at hp;rcases List.mem_append.1 hp with hp | hp
       ·exact Nat.le_trans (HPZ.out p (by simpa using hp)) (Nat.mul_le_mul_right _ (Nat.le_succ i))
       ·rw[List.mem_singleton]at hp
        subst hp;exact Nat.zero_le _
      case measure=>simp[intOf];omega
  ·obtain rfl:i=cs.length:=by omega
   have hc0:wr.cell? ⟨w.heap.size,0,none⟩=some (.slice none 0 0):=Qaa HR.out rfl;have hf0:=Qae HR.out 0;rw[List.take_of_length_le (Nat.le_refl _)]at HO hle;obtain⟨p3,c3,rfl,hr3⟩:=RwU.own HO.out;have HW:=Hi hr3;clear hr3
   go_wp2_with fail
   refine bodyPost_ret (Qao (a:=2) (t:=197) (by kernel_rfl) _ ⟨w.heap.size,0,none⟩ rfl _ _ (QcP _ _ _ _ (by kernel_rfl) (by kernel_rfl) (Qaa (o:=0) (Qac (o:=0) HR.out _) rfl))) rfl ?_;refine⟨Qby (d:=w.heap.size) (o:=0) HB.out (Nat.le_refl _),p3,c3,rfl,?_⟩;rcases HW.out.2 with h | ⟨b9,off9,c9,fr9,rfl,h1,h2,h3⟩
   ·exact .inl h
   ·refine .inr ⟨b9,off9,c9,fr9,rfl,by omega,Qag h2 (by omega) _,fun i hi=>?_⟩
    have e0:=h3 (i*2) (by omega);have e1:=h3 (i*2+1) (by omega);rw[←Nat.add_assoc]at e1;rw[e0,e1];exact QdN _ i hi
end Go.Proofs.Pg
