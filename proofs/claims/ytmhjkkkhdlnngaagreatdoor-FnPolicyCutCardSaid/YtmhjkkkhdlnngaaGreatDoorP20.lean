/- FnPolicyCut, part 20. -/
import Derived.Test.YtmhjkkkhdlnngaaGreatDoorP18
import Derived.Test.YtmhjkkkhdlnngaaGreatDoorP19
set_option linter.all false
set_option maxRecDepth 100000
set_option maxHeartbeats 0
namespace Go.Proofs.Pg
open Go.RowKit Go.Proofs.Tryz
attribute [local go_sem] Oper.semAt_some
theorem quoted_c{w:World}{b p:Nat}{s:ByteArray}(h:Scn w b s p)(hT:Lib.Utf8Tabs 1 2 w)(hs:s.size≤3000)(hb:15≤b) :
  Calls prog 82 #[.pointer (some ⟨b,0,none⟩)] w fun e w'=>∃k q,e=.returned (.bool k)∧Pr w b s p q w'∧(p<s.size→p<q):=by
 have HH:=Hi (Pr.start h);clear h;have HT:=Hi (fun(w':World)(he:Ext (·=b) w w')=>Qbg hT he (by omega) (by omega));clear hT;go_enter func82,ntmps82
 go_wp2_with fail
 refine(Qjo HH.out.1 (HT.out _ HH.out.2.2) hs).mono ?_;rintro e w1⟨rfl,E1,q1,hS1,hq1,hq2⟩;have HQ1:=Hi (HH.out.step E1 hS1 hq1);clear E1 hS1
 go_wp2_with fail
 go_loopw [3,4,5] (fun _ _ _ wr=>Hid (∃q,Pr w b s p q wr∧q1≤q)) (fun _ _ _ wr=>s.size-atW b wr)
 case atStart=>exact Hi ⟨q1,HQ1.out,Xb _⟩
 case round =>
  obtain⟨q,hq,hqq⟩:=hrel.out;clear hrel;have hqa:=hq.1.atW;have HQ:=Hi hq;obtain⟨⟨hqs,ln,col,hbk⟩,_⟩:=hq;have c0:wr.cell? ⟨b,0,none⟩=some (.string s):=Qaa hbk rfl;have c1:wr.cell? ⟨b,1,none⟩=some (.int .i64 q):=Qaa hbk rfl;clear hbk;by_cases hlt:q<s.size
  ·have h1:(q:Int)<(s.size:Int):=by omega
   go_wp2_with fail
   go_quiet (fail)
   go_wp2_with fail
   refine(Qj0 (HQ.out.drewN nq).1 (HT.out _ (HQ.out.drewN nq).2.2) hs).mono ?_;rintro e w1⟨⟨c,k,rfl,hc⟩,B1⟩;clear hc;have HQ2:=Hi ((HQ.out.drewN nq).below B1);clear B1;cases k with
   | false =>
    go_wp2_with fail
    go_ret;exact⟨_,q,rfl,HQ2.out,fun h=>by have:=hq2 h;omega⟩
   | true =>
    by_cases h10:c=10
    ·go_wp2_with fail
     go_ret;exact⟨_,q,rfl,HQ2.out,fun h=>by have:=hq2 h;omega⟩
    ·go_wp2_with fail
     refine(Qjo HQ2.out.1 (HT.out _ HQ2.out.2.2) hs).mono ?_;rintro e w3⟨rfl,E3,q3,hS3,hq3,hq4⟩;have HQ3:=Hi (HQ2.out.step E3 hS3 hq3);have h9:=hS3.atW;have hq5:=hq4 hlt;clear E3 hS3;by_cases h34:c=34
     ·go_wp2_with fail
      go_ret;exact⟨_,q3,rfl,HQ3.out,fun h=>by have:=hq2 h;omega⟩
     by_cases h92:c=92
     ·obtain⟨⟨hqs3,ln3,col3,hbk3⟩,_⟩:=HQ3.out
      have d0:w3.cell? ⟨b,0,none⟩=some (.string s):=Qaa hbk3 rfl;have d1:w3.cell? ⟨b,1,none⟩=some (.int .i64 q3):=Qaa hbk3 rfl;clear hbk3;have HZ:=Hi (esize_c s q3 hs hqs3 w3.drew)
      go_wp2_with fail
      go_region_with(go_at_call 120;refine HZ.out.mono ?_;rintro e w4 ⟨⟨x,rfl,hx⟩,rfl⟩)
      all_goals
       clear d0 d1 c0 c1;have HQ4:Hid (Pr w b s p q3 w3.drew):=Hi (HQ3.out.drewN 1);generalize w3.drew=w4 at *;clear HQ3 HZ;by_cases hx0:x=0
       ·go_wp2_with fail
        go_ret;exact⟨_,q3,rfl,HQ4.out,fun h=>by have:=hq2 h;omega⟩
       ·obtain⟨N,rfl⟩:∃N:Nat,x=N:=⟨x.toNat,by omega⟩
        have hx1:((N:Int)==0)=false:=beq_eq_false_iff_ne.2 hx0
        go_wp2_with fail
        go_loopw [47] (fun s47 wr=>∃k:Nat,s47=.int .i64 k∧k≤N∧Hid (∃q,Pr w b s p q wr∧q3≤q)) (fun s47 _=>N-(intOf s47).toNat)
        case atStart=>exact⟨0,rfl,Nat.zero_le _,Hi ⟨q3,HQ4.out,Xb _⟩⟩
        case round =>
         obtain⟨k,rfl,hk,H5⟩:=hrel;obtain⟨q5,hP5,hq5⟩:=H5.out;clear H5;have HP5:=Hi hP5;clear hP5;by_cases hkN:k<N
         ·have h1:(k:Int)<(N:Int):=by omega
          go_wp2_with fail
          refine(Qjo HP5.out.1 (HT.out _ HP5.out.2.2) hs).mono ?_;rintro e w6⟨rfl,E6,q6,hS6,hq6,_⟩;have HQ6:=Hi (HP5.out.step E6 hS6 hq6);clear E6 hS6
          go_wp2_with fail
          exact⟨⟨k+1,rfl,by omega,Hi ⟨q6,HQ6.out,by omega⟩⟩,by simp[intOf];omega⟩
         ·have h1:¬(k:Int)<(N:Int):=by omega
          have h9:=HP5.out.1.atW
          go_wp2_with fail
          exact⟨Hi ⟨q5,HP5.out,by omega⟩,by omega⟩
     ·go_wp2_with fail
      exact⟨Hi ⟨q3,HQ3.out,by omega⟩,by omega⟩
  ·have h1:¬(q:Int)<(s.size:Int):=by omega
   go_wp2_with fail
   go_quiet (fail)
   go_wp2_with fail
   go_ret;exact⟨_,q,rfl,HQ.out.drewN nq,fun h=>by have:=hq2 h;omega⟩
def Shorts(w:World)(B n:Nat):Prop:=∃(A:Array Value),w.heap[B]? =some (.cells A 9 (0,0))∧∀k,k<n→∃x:ByteArray,A[k]? =some (.string x)∧x.size≤2
theorem Shorts.below{w w':World}{B n:Nat}(h:Shorts w B n)(hb:Below w.heap.size w w'):Shorts w' B n:=by
 obtain⟨A,h1,h2⟩:=h;exact⟨A,Bk hb h1,h2⟩
theorem Shorts.at{w:World}{B n k:Nat}(h:Shorts w B n)(hk:k<n):∃x:ByteArray,w.cell? ⟨B,k,none⟩=some (.string x)∧x.size≤2:=by
 obtain⟨A,h1,h2⟩:=h;obtain⟨x,h3,h4⟩:=h2 k hk;exact⟨x,Qaa h1 h3,h4⟩
theorem Qj6{w:World}{l:List ByteArray}(hl:∀x∈l,x.size≤2):Shorts (w.alloc (.cells (l.map .string).toArray 9 (0,0))) w.heap.size l.length :=
 ⟨_,Xa w _,fun k hk=>⟨l[k],by simp[hk],hl _ (List.getElem_mem hk)⟩⟩
theorem mark_c{w:World}{b p:Nat}{s:ByteArray}(h:Scn w b s p)(hs:s.size≤3000) :
  Calls prog 86 #[.pointer (some ⟨b,0,none⟩)] w fun e w'=>(∃x:ByteArray,e=.returned (.string x)∧x.size≤2)∧Below w.heap.size w w':=by
 have HH:=Hi h;clear h;go_enter func86,ntmps86
 go_wp2_with fail
 have HS:Hid (Shorts (w.alloc (.cells #[.string ⟨#[58,58]⟩,.string ⟨#[61,61]⟩,.string ⟨#[33,61]⟩,.string ⟨#[60,61]⟩,.string ⟨#[62,61]⟩,.string ⟨#[38,38]⟩,.string ⟨#[124,124]⟩] 9 (0,0))) w.heap.size 7) :=
  Hi (Qj6 (l:=[⟨#[58,58]⟩,⟨#[61,61]⟩,⟨#[33,61]⟩,⟨#[60,61]⟩,⟨#[62,61]⟩,⟨#[38,38]⟩,⟨#[124,124]⟩]) (by decide))
 have HB:=Hi (Qab w (.cells #[.string ⟨#[58,58]⟩,.string ⟨#[61,61]⟩,.string ⟨#[33,61]⟩,.string ⟨#[60,61]⟩,.string ⟨#[62,61]⟩,.string ⟨#[38,38]⟩,.string ⟨#[124,124]⟩] 9 (0,0)));generalize w.alloc (.cells #[.string ⟨#[58,58]⟩,.string ⟨#[61,61]⟩,.string ⟨#[33,61]⟩,.string ⟨#[60,61]⟩,.string ⟨#[62,61]⟩,.string ⟨#[38,38]⟩,.string ⟨#[124,124]⟩] 9 (0,0))=w1 at *
 go_loopw [9] (fun s9 wr=>∃k:Nat,s9=.int .i64 k∧k≤7∧Hid (Below w.heap.size w wr∧Shorts wr w.heap.size 7)) (fun s9 _=>7-(intOf s9).toNat)
 case atStart=>exact⟨0,rfl,by decide,Hi ⟨HB.out,HS.out⟩⟩
 case round =>
  obtain⟨k,rfl,hk,HK⟩:=hrel;by_cases hk7:k<7
  ·have h1:(k:Int)<7:=by omega
   obtain⟨x,c0,hx⟩:=HK.out.2.at hk7
   go_wp2_with fail
   refine(Qj9 (HH.out.ext (S:=fun _=>False) (.below HK.out.1) (fun h=>h)) x hs (by omega)).mono ?_;rintro e w2⟨⟨r,rfl,_⟩,B2⟩;have HK2:Hid (Below w.heap.size w w2∧Shorts w2 w.heap.size 7):=Hi ⟨HK.out.1.trans (B2.mono HK.out.1.size),HK.out.2.below B2⟩;clear B2 HK c0;cases r with
   | true =>
    go_wp2_with fail
    go_ret;exact⟨⟨_,rfl,hx⟩,HK2.out.1⟩
   | false =>
    go_wp2_with fail
    exact⟨⟨k+1,rfl,by omega,HK2⟩,by simp[intOf];omega⟩
  ·have h1:¬(k:Int)<7:=by omega
   go_wp2_with fail
   have HB2:Hid (Below w.heap.size w (wr.alloc (.cells #[.string ⟨#[64]⟩,.string ⟨#[46]⟩,.string ⟨#[44]⟩,.string ⟨#[59]⟩,.string ⟨#[40]⟩,.string ⟨#[41]⟩,.string ⟨#[123]⟩,.string ⟨#[125]⟩,.string ⟨#[91]⟩,.string ⟨#[93]⟩,.string ⟨#[43]⟩,.string ⟨#[45]⟩,.string ⟨#[42]⟩,.string ⟨#[58]⟩,.string ⟨#[33]⟩,.string ⟨#[60]⟩,.string ⟨#[62]⟩] 9 (0,0)))):=Hi (HK.out.1.trans ((Qab wr _).mono HK.out.1.size));have HS2:Hid (Shorts (wr.alloc (.cells #[.string ⟨#[64]⟩,.string ⟨#[46]⟩,.string ⟨#[44]⟩,.string ⟨#[59]⟩,.string ⟨#[40]⟩,.string ⟨#[41]⟩,.string ⟨#[123]⟩,.string ⟨#[125]⟩,.string ⟨#[91]⟩,.string ⟨#[93]⟩,.string ⟨#[43]⟩,.string ⟨#[45]⟩,.string ⟨#[42]⟩,.string ⟨#[58]⟩,.string ⟨#[33]⟩,.string ⟨#[60]⟩,.string ⟨#[62]⟩] 9 (0,0))) wr.heap.size 17):=Hi (Qj6 (l:=[⟨#[64]⟩,⟨#[46]⟩,⟨#[44]⟩,⟨#[59]⟩,⟨#[40]⟩,⟨#[41]⟩,⟨#[123]⟩,⟨#[125]⟩,⟨#[91]⟩,⟨#[93]⟩,⟨#[43]⟩,⟨#[45]⟩,⟨#[42]⟩,⟨#[58]⟩,⟨#[33]⟩,⟨#[60]⟩,⟨#[62]⟩]) (by decide))
   have hz2:w.heap.size≤wr.heap.size:=HK.out.1.size;generalize wr.alloc (.cells #[.string ⟨#[64]⟩,.string ⟨#[46]⟩,.string ⟨#[44]⟩,.string ⟨#[59]⟩,.string ⟨#[40]⟩,.string ⟨#[41]⟩,.string ⟨#[123]⟩,.string ⟨#[125]⟩,.string ⟨#[91]⟩,.string ⟨#[93]⟩,.string ⟨#[43]⟩,.string ⟨#[45]⟩,.string ⟨#[42]⟩,.string ⟨#[58]⟩,.string ⟨#[33]⟩,.string ⟨#[60]⟩,.string ⟨#[62]⟩] 9 (0,0))=w2 at *;generalize wr.heap.size=Z at *
   clear HK HS HB
   go_loopw [20] (fun s9 wq=>∃k:Nat,s9=.int .i64 k∧k≤17∧Hid (Below w.heap.size w wq∧Shorts wq Z 17)) (fun s9 _=>17-(intOf s9).toNat)
   case atStart=>exact⟨0,rfl,by decide,Hi ⟨HB2.out,HS2.out⟩⟩
   case round =>
    obtain⟨j,rfl,hj,HK⟩:=hrel;by_cases hj7:j<17
    ·have h2:(j:Int)<17:=by omega
     obtain⟨x,c0,hx⟩:=HK.out.2.at hj7
     go_wp2_with fail
     refine(Qj9 (HH.out.ext (S:=fun _=>False) (.below HK.out.1) (fun h=>h)) x hs (by omega)).mono ?_;rintro e w3⟨⟨r,rfl,_⟩,B2⟩;have HK2:Hid (Below w.heap.size w w3∧Shorts w3 Z 17):=Hi ⟨HK.out.1.trans (B2.mono HK.out.1.size),HK.out.2.below B2⟩;clear B2 HK c0;cases r with
     | true =>
      go_wp2_with fail
      go_ret;exact⟨⟨_,rfl,hx⟩,HK2.out.1⟩
     | false =>
      go_wp2_with fail
      exact⟨⟨j+1,rfl,by omega,HK2⟩,by simp[intOf];omega⟩
    ·have h2:¬(j:Int)<17:=by omega
     go_wp2_with fail
     go_ret;exact⟨⟨_,rfl,by decide⟩,HK.out.1⟩
def NxP(w:World)(b:Nat)(s:ByteArray)(p:Nat)(e:Ending)(w':World):Prop:=∃(n:Int)(k:Bool)(q:Nat),e=.returned (.tuple #[.int .i64 n,.bool k])∧Pr w b s p q w'∧(k=true→p<q)
theorem nextr_c{w:World}{b p:Nat}{s:ByteArray}(h:Scn w b s p)(hT:Lib.Utf8Tabs 1 2 w)(hs:s.size≤3000)(hb:15≤b)(hp:p<s.size) :
  Calls prog 59 #[.pointer (some ⟨b,0,none⟩)] w (NxP w b s p):=by
 have HH:=Hi (Pr.start h);clear h;have HT:=Hi (fun(w':World)(he:Ext (·=b) w w')=>Qbg hT he (by omega) (by omega));clear hT;go_enter func59,ntmps59
 go_wp2_with fail
 refine(Qj0 HH.out.1 (HT.out _ HH.out.2.2) hs).mono ?_;rintro e w1⟨⟨c,k,rfl,hc⟩,B1⟩;clear hc;have HQ1:=Hi (HH.out.below B1);clear B1;cases k with
 | false =>
  go_wp2_with fail
  go_ret2
  exact⟨_,_,p,rfl,HQ1.out,fun h=>by cases h⟩
 | true =>
 by_cases h34:c=34
 ·go_wp2_with fail
  refine(quoted_c HQ1.out.1 (HT.out _ HQ1.out.2.2) hs hb).mono ?_;rintro e w2⟨k2,q,rfl,hP2,hq2⟩;have HQ2:=Hi (HQ1.out.step hP2.2.2 hP2.1 hP2.2.1);clear hP2
  go_wp2_with fail
  go_ret2
  exact⟨_,_,q,rfl,HQ2.out,fun _=>hq2 hp⟩
 obtain⟨⟨_,ln,col,hbk⟩,_⟩:=HQ1.out;have c1:w1.cell? ⟨b,1,none⟩=some (.int .i64 p):=Qaa hbk rfl;clear hbk
 go_wp2_with fail
 refine(QjZ c _).mono ?_;rintro e w2⟨⟨k2,rfl,hk2⟩,rfl⟩;clear c1;cases k2 with
 | true =>
  have hw1:=hk2.1 rfl;clear hk2
  go_wp2_with fail
  go_loopw [4] (fun s4 wr=>∃c':Int,s4=.int .i32 c'∧Hid (∃q,Pr w b s p q wr∧(q=s.size→c'=65533)∧(p<q∨(c'=95∨(97≤c'∧c'≤122)∨(65≤c'∧c'≤90))))) (fun _ wr=>s.size-atW b wr)
  case atStart=>exact⟨c,rfl,Hi ⟨p,HQ1.out,fun h=>by omega,.inr hw1⟩⟩
  case round =>
   obtain⟨c',rfl,HJ⟩:=hrel;obtain⟨q,hPq,hqe,hqp⟩:=HJ.out;have HP:=Hi hPq;have hqa:=hPq.1.atW;have hqs:=hPq.1.1;have hpq:=hPq.2.1;clear HJ hPq
   go_wp2_with fail
   refine(QjZ c' _).mono ?_;rintro e w3⟨⟨k3,rfl,hk3⟩,rfl⟩;cases k3 with
   | true =>
    have hc3:=hk3.1 rfl;clear hk3
    go_wp2_with fail
    have hqlt:q<s.size:=by
     rcases Nat.lt_or_ge q s.size with h | h
     ·exact h
     ·have:=hqe (by omega);omega
    refine(Qjo HP.out.1 (HT.out _ HP.out.2.2) hs).mono ?_;rintro e w6⟨rfl,E6,q6,hS6,hq6,hq7⟩;have HQ6:=Hi (HP.out.step E6 hS6 hq6);have hq8:=hq7 hqlt;clear E6 hS6
    go_wp2_with fail
    refine(Qj0 HQ6.out.1 (HT.out _ HQ6.out.2.2) hs).mono ?_;rintro e w7⟨⟨c7,k7,rfl,hc7⟩,B7⟩;have HQ7:=Hi (HQ6.out.below B7);have hc8:q6=s.size→c7=65533:=fun e=>by rw[hc7,Qj8 (by rw[ByteArray.size_extract];omega)];rfl
    have h9:=HQ7.out.1.atW;clear B7 hc7
    go_wp2_with fail
    exact⟨⟨c7,rfl,Hi ⟨q6,HQ7.out,hc8,.inl (by omega)⟩⟩,by omega⟩
   | false =>
    have hc3:¬(c'=95∨(97≤c'∧c'≤122)∨(65≤c'∧c'≤90)):=fun h=>by have:=hk3.2 h;cases this
    clear hk3
    go_wp2_with fail
    refine(QjT c' _).mono ?_;rintro e w4⟨⟨k4,rfl,hk4⟩,rfl⟩;cases k4 with
    | true =>
     have hc4:=hk4.1 rfl;clear hk4
     go_wp2_with fail
     have hqlt:q<s.size:=by
      rcases Nat.lt_or_ge q s.size with h | h
      ·exact h
      ·have:=hqe (by omega);omega
     refine(Qjo HP.out.1 (HT.out _ HP.out.2.2) hs).mono ?_;rintro e w6⟨rfl,E6,q6,hS6,hq6,hq7⟩;have HQ6:=Hi (HP.out.step E6 hS6 hq6);have hq8:=hq7 hqlt;clear E6 hS6
     go_wp2_with fail
     refine(Qj0 HQ6.out.1 (HT.out _ HQ6.out.2.2) hs).mono ?_;rintro e w7⟨⟨c7,k7,rfl,hc7⟩,B7⟩;have HQ7:=Hi (HQ6.out.below B7);have hc8:q6=s.size→c7=65533:=fun e=>by rw[hc7,Qj8 (by rw[ByteArray.size_extract];omega)];rfl
     have h9:=HQ7.out.1.atW;clear B7 hc7
     go_wp2_with fail
     exact⟨⟨c7,rfl,Hi ⟨q6,HQ7.out,hc8,.inl (by omega)⟩⟩,by omega⟩
    | false =>
     clear hk4;have hpq1:=hqp.resolve_right hc3;obtain⟨⟨_,ln,col,hbk⟩,_⟩:=HP.out;have c0:w4.cell? ⟨b,0,none⟩=some (.string s):=Qaa hbk rfl;have c1:w4.cell? ⟨b,1,none⟩=some (.int .i64 q):=Qaa hbk rfl;clear hbk
     go_wp2_with fail
     go_region_with(go_at_call 85;refine(Qkk _ _).mono ?_;rintro e w5 ⟨⟨k5,rfl,_⟩,rfl⟩)
     all_goals
      have HQ5:Hid (Pr w b s p q w4.drew):=Hi (HP.out.drewN 1);cases k5
      ·go_wp2_with fail
       go_ret2
       exact⟨_,_,q,rfl,HQ5.out,fun _=>hpq1⟩
      ·go_wp2_with fail
       go_ret2
       exact⟨_,_,q,rfl,HQ5.out,fun _=>hpq1⟩
 | false =>
  clear hk2
  go_wp2_with fail
  refine(QjT c _).mono ?_;rintro e w3⟨⟨k3,rfl,hk3⟩,rfl⟩;cases k3 with
  | true =>
   have hw1:=hk3.1 rfl;clear hk3
   go_wp2_with fail
   go_loopw [4] (fun s4 wr=>∃c':Int,s4=.int .i32 c'∧Hid (∃q,Pr w b s p q wr∧(q=s.size→c'=65533)∧(p<q∨(48≤c'∧c'≤57)))) (fun _ wr=>s.size-atW b wr)
   case atStart=>exact⟨c,rfl,Hi ⟨p,HQ1.out,fun h=>by omega,.inr hw1⟩⟩
   case round =>
    obtain⟨c',rfl,HJ⟩:=hrel;obtain⟨q,hPq,hqe,hqp⟩:=HJ.out;have HP:=Hi hPq;have hqa:=hPq.1.atW;have hqs:=hPq.1.1;have hpq:=hPq.2.1;clear HJ hPq
    go_wp2_with fail
    refine(QjT c' _).mono ?_;rintro e w4⟨⟨k4,rfl,hk4⟩,rfl⟩;cases k4 with
    | true =>
     have hc4:=hk4.1 rfl;clear hk4
     go_wp2_with fail
     have hqlt:q<s.size:=by
      rcases Nat.lt_or_ge q s.size with h | h
      ·exact h
      ·have:=hqe (by omega);omega
     refine(Qjo HP.out.1 (HT.out _ HP.out.2.2) hs).mono ?_;rintro e w6⟨rfl,E6,q6,hS6,hq6,hq7⟩;have HQ6:=Hi (HP.out.step E6 hS6 hq6);have hq8:=hq7 hqlt;clear E6 hS6
     go_wp2_with fail
     refine(Qj0 HQ6.out.1 (HT.out _ HQ6.out.2.2) hs).mono ?_;rintro e w7⟨⟨c7,k7,rfl,hc7⟩,B7⟩;have HQ7:=Hi (HQ6.out.below B7);have hc8:q6=s.size→c7=65533:=fun e=>by rw[hc7,Qj8 (by rw[ByteArray.size_extract];omega)];rfl
     have h9:=HQ7.out.1.atW;clear B7 hc7
     go_wp2_with fail
     exact⟨⟨c7,rfl,Hi ⟨q6,HQ7.out,hc8,.inl (by omega)⟩⟩,by omega⟩
    | false =>
     have hpq1:=hqp.resolve_right (fun h=>by have:=hk4.2 h;cases this);clear hk4
     go_wp2_with fail
     go_ret2
     exact⟨_,_,q,rfl,HP.out,fun _=>hpq1⟩
  | false =>
   clear hk3
   go_wp2_with fail
   refine(mark_c HQ1.out.1 hs).mono ?_;rintro e w4⟨⟨m,rfl,hm⟩,B4⟩;have HQ4:=Hi (HQ1.out.below B4);clear B4;by_cases h0:m.size=0
   ·have hz:(m.toList==[])=true:=by rw[Qiz];simp;exact Array.eq_empty_of_size_eq_zero h0
    go_wp2_with fail
    refine(Qjo HQ4.out.1 (HT.out _ HQ4.out.2.2) hs).mono ?_;rintro e w5⟨rfl,E5,q5,hS5,hq5,hq6⟩;have HQ5:=Hi (HQ4.out.step E5 hS5 hq5);clear E5 hS5
    go_wp2_with fail
    go_ret2
    exact⟨_,_,q5,rfl,HQ5.out,fun _=>hq6 hp⟩
   ·have hz:(m.toList==[])=false:=by rw[Qiz];simp;exact fun h=>h0 (by show m.data.size=0;rw[h];rfl)
    go_wp2_with fail
    go_loopw [68] (fun s68 wr=>∃k:Nat,s68=.int .i64 k∧k≤m.size∧Hid (∃q,Pr w b s p q wr∧(k=0→q=p)∧(0<k→p<q))) (fun s68 _=>m.size-(intOf s68).toNat)
    case atStart=>exact⟨0,rfl,Nat.zero_le _,Hi ⟨p,HQ4.out,fun _=>rfl,fun h=>by omega⟩⟩
    case round =>
     obtain⟨k,rfl,hk,HJ⟩:=hrel;obtain⟨q,hPq,hq0,hq1⟩:=HJ.out;have HP:=Hi hPq;clear HJ hPq;by_cases hkm:k<m.size
     ·have h1:(k:Int)<(m.size:Int):=by omega
      go_wp2_with fail
      refine(Qjo HP.out.1 (HT.out _ HP.out.2.2) hs).mono ?_;rintro e w5⟨rfl,E5,q5,hS5,hq5,hq6⟩;have HQ5:=Hi (HP.out.step E5 hS5 hq5);clear E5 hS5
      go_wp2_with fail
      refine⟨⟨k+1,rfl,by omega,Hi ⟨q5,HQ5.out,fun h=>by omega,fun _=>?_⟩⟩,by simp[intOf];omega⟩;by_cases hk0:k=0
      ·have:=hq0 hk0;subst this;exact hq6 hp
      ·have:=hq1 (by omega);omega
     ·have h1:¬(k:Int)<(m.size:Int):=by omega
      go_wp2_with fail
      go_ret2
      exact⟨_,_,q,rfl,HP.out,fun _=>hq1 (by omega)⟩
end Go.Proofs.Pg
namespace Go.Proofs.Pg
open Go.RowKit Go.Proofs.Tryz
def numM:Lib.NumEnd Int→Option Int
 | .ok v=>some v
 | _=>none
def intM(s:ByteArray):Option Int:=numM (Lib.parseIntB 64 s.data.toList)
theorem int_c(s:ByteArray)(w:World)(hg:Glob w)(h15:15≤w.heap.size)(hs:s.size≤1000001){base:Nat}:Calls prog 246 #[.string s,.int .i64 10,.int .i64 64] w (IntV base w (intM s)):=by
 unfold intM;obtain⟨r,hr⟩:∃r,Lib.parseIntB 64 s.data.toList=r:=⟨_,rfl⟩
 rw[hr];rcases r with v | _ | _
 ·have hc:=Tryz.strconv_ParseInt_10_at64_ok s (by omega) v hr w
  refine hc.mono ?_;intro e w' h2;obtain⟨he,hw⟩:=h2;refine⟨?_,he⟩;rcases hw with rfl | ⟨t,rfl⟩
  ·exact .refl _ _
  ·exact Lib.bytesWorld_below _ _ _
 ·obtain⟨T,p,hv⟩:=hg.e5
  have hc:=Tryz.strconv_ParseInt_10_at64_syn s (by omega) _ hr (fun v h=>by cases h) (fun h=>by cases h) _ w hv (.inr ⟨T,p,rfl⟩);refine hc.mono ?_;intro e w' h2;obtain⟨N,he,h3⟩:=h2;exact⟨h3.2.2,_,_,⟨_,.inl (by decide)⟩,he⟩
 ·obtain⟨T,p,hv⟩:=hg.e6
  have hc:=Tryz.strconv_ParseInt_10_at64_range s (by omega) hr _ w hv (.inr ⟨T,p,rfl⟩);refine hc.mono ?_;intro e w' h2;obtain⟨N,he,h3⟩:=h2;exact⟨h3.2.2,_,_,⟨_,.inl (by decide)⟩,he⟩
end Go.Proofs.Pg
