/- FnComma: a last comma changes nothing; for every world. Part 30. -/
import Derived.Test.YtmhjkkkhdlnngaaGreatDoorZ29
set_option linter.all false
set_option maxRecDepth 100000
set_option maxHeartbeats 40000000
namespace Go.Proofs.Pg
open Go.RowKit
attribute [local go_sem] Oper.semAt_some
variable {t:List UInt8}{r:Rdr}{lo b:Nat}{σ:Sc}{w w':World}
theorem Fr.heap{rb b lo:Nat}{x y:World}(h:Fr rb b lo x y){d:Nat}{c:Array Value}{T:TypeId}{fr:Nat×Nat}(hd:x.heap[d]? =some (.cells c T fr))(hT:T≠5)(h1:d≠rb)(h2:d≠b):y.heap[d]? =some (.cells c T fr):=by
 refine(h.block d (Qad hd) ?_).trans hd;rintro(e | e |⟨_,c',fr',e⟩)
 ·exact h1 e
 ·exact h2 e
 ·rw[hd]at e
  injection e with e
  injection e with _ e _
  exact hT e
abbrev zTok:Array Value:=#[.int .i64 0,.string ⟨#[]⟩,.int .i64 0,.int .i64 0,.int .i64 0,.string ⟨#[]⟩]
theorem Sn.other{S:Nat→Prop}{F:Fd}{tb:List UInt8}(h:Sn w lo b F tb)(he:Ext S w w')(hb:¬S b)(hs:∀d,S d→∀c fr,w.heap[d]?≠some (.cells c 5 fr)):Sn w' lo b F tb:=by
 have hblt:=h.lt;obtain⟨hB,v,lr,h3,hown,hne⟩:=h;exact⟨hB,v,lr,h3.of_heap (he.block b hblt hb),Qdj hown he (fun d hd=>.inr (hs d hd)),hne⟩
theorem Qgf{P:Program}{f:FuncId}{args:Array Value}{W:World}{Q:Ending→World→Prop}(h:∀w2,w2=W→Calls P f args w2 Q):Calls P f args W Q:=h W rfl
def NtR(t:List UInt8)(r:Rdr)(lo b rk:Nat)(w0:World)(Res:Int×Cs)(s3:Value)(wr:World):Prop :=
 ∃(f:Nat)(c:Int)(σ':Sc),s3=.int .i32 c∧SW t r lo b σ' wr∧Fr r.rb b lo w0 wr∧mu t (c,σ')<f∧Qb4 t f (c,σ')=Res∧wr.heap[rk]? =some (.cells zTok 122 (0,0))
def fr88(b rk:Nat)(s3:Value)(u:Nat→Value):Array Value:=#[.pointer (some ⟨b,0,none⟩),undef,.pointer (some ⟨rk,0,none⟩),s3,u 4,u 5,u 6,u 7,u 8,u 9,u 10,u 11,u 12,u 13,u 14,u 15,u 16,u 17,u 18,u 19,u 20,u 21,u 22,u 23,u 24,u 25,u 26,u 27,u 28,u 29,u 30,u 31,u 32,u 33,u 34,u 35,u 36,u 37,u 38,u 39,u 40,u 41,u 42,u 43,u 44,u 45,u 46,u 47,u 48,u 49,u 50,u 51,u 52,u 53,u 54,u 55,u 56,u 57,u 58,u 59,u 60,u 61,u 62,u 63,u 64,u 65,u 66,u 67,u 68,u 69,u 70,u 71,u 72,u 73,u 74,u 75,u 76,u 77,u 78,u 79,u 80,u 81,u 82,u 83,u 84,u 85,u 86,u 87,u 88,u 89,u 90,u 91,u 92,u 93,u 94,u 95,u 96,u 97,u 98,u 99,u 100,u 101,u 102,u 103,u 104,u 105,u 106,u 107,u 108,u 109,u 110,u 111,u 112,u 113,u 114,u 115,u 116,u 117,u 118,u 119,u 120,u 121,u 122,u 123,u 124,u 125,u 126,u 127,u 128,u 129,u 130,u 131,u 132,u 133,u 134,u 135,u 136,u 137,u 138,u 139,u 140,u 141,u 142,u 143,u 144,u 145,u 146,u 147,u 148,u 149,u 150,u 151,u 152,u 153,u 154,u 155,u 156,u 157,u 158,u 159,u 160,u 161,u 162,u 163,u 164,u 165,u 166,u 167,u 168,u 169,u 170,u 171,u 172,u 173,u 174,u 175,u 176,u 177,u 178,u 179,u 180,u 181,u 182,u 183]
def NtJ(t:List UInt8)(r:Rdr)(lo b rk:Nat)(w0:World)(Res:Int×Cs)(a':Act)(w':World):Prop :=
 a'={tmps:=fr88 b rk (a'.tmps.getD 3 undef) (fun k=>a'.tmps.getD k undef),defers:=[]}∧NtR t r lo b rk w0 Res (a'.tmps.getD 3 undef) w'
def WsR(t:List UInt8)(r:Rdr)(lo b:Nat)(w0:World)(u:Cs)(s3:Value)(wr:World):Prop:=s3=.int .i32 u.1∧SW t r lo b u.2 wr∧Fr r.rb b lo w0 wr
def SwR(t:List UInt8)(r:Rdr)(lo b:Nat)(w0:World)(res:Int×Cs)(s3 s4:Value)(wr:World):Prop:=s3=.int .i32 res.2.1∧s4=.int .i64 res.1∧SW t r lo b res.2.2 wr∧Fr r.rb b lo w0 wr
def TkP(t:List UInt8)(r:Rdr)(lo b:Nat)(w:World)(res:Tok×Sc)(e:Ending)(w':World):Prop:=e=.returned res.1.val∧SW t r lo b res.2 w'∧Fr r.rb b lo w w'
theorem SW.setTs(h:SW t r lo b σ w):SW t r lo b {σ with ts:=none} (w.setCell ⟨b,1036,none⟩ (.int .i64 (-1))):=by
 obtain⟨F,tb,off,pos,en,X⟩:=h;exact⟨_,tb,off,pos,en,X.move (X.sn.s_tp (-1)) ((Ext.refl _ _).set (.inl X.sn.hlo) _) {X.wf with tok:=rfl} rfl⟩
theorem SW.cells(h:SW t r lo b σ w):b<w.heap.size∧(∃v,w.cell? ⟨b,1036,none⟩=some (.int .i64 v))∧w.frozen? ⟨b,1036,none⟩=false:=by
 obtain⟨F,tb,off,pos,en,X⟩:=h;exact⟨X.sn.lt,⟨_,X.sn.c_tp⟩,X.sn.free 1036⟩
theorem Qe5(h:SW t r lo b σ w)(hrb:r.rb<lo):Calls Tryz.prog 88 #[.pointer (some ⟨b,0,none⟩)] w (TkP t r lo b w (Qa3 t σ)):=by
 have HRES:Hid (Qa3 t σ=(Qdx t (Qb4 t (t.length+3) (QaG t σ)).1 (Qb4 t (t.length+3) (QaG t σ)).2.2,{(Qb4 t (t.length+3) (QaG t σ)).2.2 with ch:=(Qb4 t (t.length+3) (QaG t σ)).2.1})):=Hi rfl;have HTS:Hid (∃k,(Qb4 t (t.length+3) (QaG t σ)).2.2.ts=some k):=Hi (Qhx t _ _ (by have:=Qfd t (QaG t σ);omega));generalize hge:Qa3 t σ=Out at *;have HGE:=Hi hge;clear hge;generalize hgr:Qb4 t (t.length+3) (QaG t σ)=Res at *
 have HGR:=Hi hgr;clear hgr;have HSW:=Hi h;clear h;go_enter Tryz.func88,Tryz.ntmps88;go_wp2;obtain⟨rk,hrk⟩:∃rk,w.heap.size=rk:=⟨_,rfl⟩
 have hrkb:rk≠b:=by obtain⟨F,tb,off,pos,en,X⟩:=HSW.out;have:=X.sn.lt;omega
 have hrkr:rk≠r.rb:=by obtain⟨F,tb,off,pos,en,X⟩:=HSW.out;have:=X.hlo;omega
 have HRK:=Hi hrk;refine Qdw 0 (NtJ t r lo b rk w Res) (fun a' w'=>muW t.length b (a'.tmps.getD 3 undef) w') rfl ?_ ?_
 ·rintro a' wr⟨ha,hN⟩
  generalize (fun k=>a'.tmps.getD k undef)=u at ha;generalize a'.tmps.getD 3 undef=s3 at ha hN;subst ha;obtain⟨f,c,σ',rfl,h1,F1,hm,hres,hK⟩:=hN;dsimp only[fr88];clear hrk;have HMU:=Hi (h1.mu .i32 c);have HM:=Hi hm;clear hm;have HS:=Hi h1;clear h1;have HF:=Hi F1;clear F1;have HK:=Hi hK;clear hK;obtain⟨f,rfl⟩:∃f',f=f'+1:=⟨f-1,by have:=HM.out;omega⟩
  have HR0:Hid (Res=(if(QaA t (c,σ')).1=-1 then(0,((QaA t (c,σ')).1,QaJ (QaA t (c,σ')).2))
   else if isId (QaA t (c,σ')).1 true=true then(1,Qc3 t (QaJ (QaA t (c,σ')).2))
   else if QaZ (QaA t (c,σ')).1=true then(2,QbN t ((QaA t (c,σ')).1,QaJ (QaA t (c,σ')).2))
   else if(QaA t (c,σ')).1=34 then(4,nxt t (QbC t (QaJ (QaA t (c,σ')).2)))
   else if(QaA t (c,σ')).1=47 then(if(nxt t (QaJ (QaA t (c,σ')).2)).1=47∨(nxt t (QaJ (QaA t (c,σ')).2)).1=42 then Qb4 t f (QaT t ((nxt t (QaJ (QaA t (c,σ')).2)).1,{(nxt t (QaJ (QaA t (c,σ')).2)).2 with ts:=none}))else Qbo t 47 (nxt t (QaJ (QaA t (c,σ')).2)))
   else Qbo t (QaA t (c,σ')).1 (nxt t (QaJ (QaA t (c,σ')).2)))):=Hi (by rw[←hres];rfl)
  have HSTEP:Hid (∀v,nxt t (QaJ (QaA t (c,σ')).2)=v→(QaA t (c,σ')).1=47→(v.1=47∨v.1=42)→mu t (QaT t (v.1,{v.2 with ts:=none}))+1<mu t (c,σ')):=Hi fun v hv h47 hc=>Qdy t rfl h47 hv hc
  clear hres;have HWS0:Hid (Qcp t r lo b (wsL t) wr (QaA t (c,σ')) (.int .i32 c) wr):=Hi ⟨t.length+2,c,σ',rfl,HS.out,Fr.refl _ _ _ _,Qfd _ _,rfl⟩;generalize QaA t (c,σ')=u at *
  go_upto_block 0 with(fail)
  go_cut [3] (fun s wx=>WsR t r lo b wr u s wx)
  case first =>
   go_wp2_with fail
   go_loopw [3] (fun s wx=>Qcp t r lo b (wsL t) wr u s wx) (fun s wx=>muW t.length b s wx)
   case atStart=>exact HWS0.out
   case round =>
    clear HWS0 HR0 HSTEP;obtain⟨g,c9,σ9,rfl,h9,F9,hm9,hres9⟩:=hrel;obtain⟨g,rfl⟩:∃f',g=f'+1:=⟨g-1,by omega⟩
    have HF9:=Hi F9;clear F9;have HMU9:=Hi (h9.mu .i32 c9);have HM9:=Hi hm9;clear hm9;have HS9:=Hi h9;clear h9;cases hc:isWs c9 with
    | true =>
     have HC:=Hi hc;have HE:Hid (wsL t g (nxt t σ9)=u):=Hi (by rw[←hres9,wsL];simp[hc]);have HI:Hid (∀w,Calls Tryz.prog 122 #[.int .i32 c9] w fun e w'=>e=.returned (.bool true)∧w'=w):=Hi (by have:=ws_c c9;rw[hc]at this;exact this);clear hres9 hc
     go_wp2_with(go_at_call 122;(with_reducible refine(HI.out _).mono ?_);rintro e w' ⟨rfl,rfl⟩)
     refine(QaX HS9.out).mono ?_;rintro e w2⟨rfl,h2,F2⟩;have HS2:=Hi h2;clear h2;have HF2:=Hi F2;clear F2
     go_wp2_with fail
     have hne:c9≠-1:=by rintro rfl;exact absurd HC.out (by decide)
     have hmm:=Qbk t σ9;have hm1:=HM9.out;rw[Qbc hne]at hm1;refine⟨⟨g,_,_,rfl,HS2.out,HF9.out.trans HF2.out,by show mu t (nxt t σ9)<g;omega,HE.out⟩,?_⟩;rw[HMU9.out,Qbc hne,HS2.out.mu];show mu t (nxt t σ9)<_;omega
    | false =>
     have HE:Hid ((c9,σ9)=u):=Hi (by rw[←hres9,wsL];simp[hc]);have HI:Hid (∀w,Calls Tryz.prog 122 #[.int .i32 c9] w fun e w'=>e=.returned (.bool false)∧w'=w):=Hi (by have:=ws_c c9;rw[hc]at this;exact this);clear hres9 hc
     go_wp2_with(go_at_call 122;(with_reducible refine(HI.out _).mono ?_);rintro e w' ⟨rfl,rfl⟩)
     go_meet
     rw[←HE.out];exact⟨rfl,HS9.out,HF9.out⟩
  case rest =>
   obtain⟨rfl,h2,F2⟩:=hcut;obtain⟨c1,σ1⟩:=u;simp only at HR0 HSTEP h2;clear HWS0;have HF2:=Hi (HF.out.trans F2);have HK2:=Hi (F2.heap HK.out (by decide) hrkr hrkb);clear F2 HS HF HK;obtain⟨F,tb,off,pos,en,X⟩:=h2;have HX:=Hi X;clear X
   go_wp2_with fail
   refine(reset_c HX.out.sn).mono ?_;rintro e w3⟨rfl,S3,E3⟩;have HF3:=Hi (HF2.out.trans (Fr.of_b E3));have HK3:=Hi (E3.heap hrkb HK2.out);have hwf:=HX.out.wf;have hp1:=hwf.hp;have hp2:=hwf.len;have hp3:=hwf.le1;have hp4:=hwf.le2;have hp5:=hwf.lcle;have hp6:=HX.out.hlen;have hblt:=S3.lt;have hblo:=S3.hlo;have d0:=S3.c_pos;have d1:=S3.c_lcl;have d2:=S3.c_tp;rw[hwf.fpos]at d0;rw[hwf.flcl]at d1;have e0:=S3.free 1036
   have HE3:=Hi E3;clear E3;have HS3:=Hi S3;clear S3;have HWF:=Hi hwf;clear hwf;have g1:(σ1.lcl:Int)≤(pos:Int):=by omega
   have g2:(pos:Int)≤1024:=by omega
   have g3:(off:Int)≤1000000:=by omega
   clear HF2 HK2
   go_wp2_with fail
   go_region
   all_goals
    go_upto_region 10 with(fail)
    refine Qba fun w4 hw4=>?_
    have S4:Sn w4 lo b {F with tp:=(pos:Int)-(σ1.lcl:Int)} []:=hw4▸(HS3.out.s_tp _).drew;have E4:Ext (fun d=>d=b) wc w4:=hw4▸(HE3.out.setb _ _).drew;have HF4:Hid (Fr r.rb b lo w w4):=Hi (hw4▸(HF3.out.set _ _).drew);have HK4:Hid (w4.heap[rk]? =some (.cells zTok 122 (0,0))):=Hi (hw4▸Qag HK3.out hrkb _);clear hw4 d0 d1 d2 e0 hblt;have hblt:=S4.lt;have d0:=S4.c_off;have d1:=S4.c_tp;have d2:=S4.c_po;simp only at d0 d1 d2
    rw[HWF.out.foff]at d0;have e0:=S4.free 1041;have HS4:=Hi S4;clear S4;have HE4:=Hi E4;clear E4
    go_region
    all_goals
     go_upto_region 11 with(fail)
     refine Qba fun w5 hw5=>?_
     have S5:Sn w5 lo b {F with tp:=(pos:Int)-(σ1.lcl:Int),po:=(off:Int)+((pos:Int)-(σ1.lcl:Int))} []:=hw5▸(HS4.out.s_po _).drew;have E5:Ext (fun d=>d=b) wc w5:=hw5▸(HE4.out.setb _ _).drew;have HF5:Hid (Fr r.rb b lo w w5):=Hi (hw5▸(HF4.out.set _ _).drew);have HK5:Hid (w5.heap[rk]? =some (.cells zTok 122 (0,0))):=Hi (hw5▸Qag HK4.out hrkb _);clear hw5 d0 d1 d2 e0 hblt;have hblt:=S5.lt;have d0:=S5.c_col
     have d1:=S5.c_ln;have d2:=S5.c_lll;have d3:=S5.c_pl;have d4:=S5.c_pc;simp only at d0 d1 d2 d3 d4;rw[HWF.out.fcol]at d0;rw[HWF.out.fln]at d1;rw[HWF.out.flll]at d2;have e0:=S5.free 1042;have e1:=S5.free 1043;have HS5:=Hi S5;clear S5;have HE5:=Hi E5;clear E5
     go_cut [65] (fun s wx=>s=.bool (decide (0<σ1.col))∧wx=w5)
     case first =>
      go_wp2_with fail
      go_meet
      exact⟨rfl,rfl⟩
     case rest =>
      obtain⟨rfl,hwx⟩:=hcut;have hwx':=hwx.symm;subst hwx';clear hwx
      go_upto_if 65 with(fail)
      go_cut [82] (fun _ wx=>SW t r lo b (QaJ σ1) wx∧Fr r.rb b lo w wx∧wx.heap[rk]? =some (.cells zTok 122 (0,0)))
      case first =>
       have HTOK:Hid (tokF t off pos σ1.lcl ((pos:Int)-(σ1.lcl:Int)) [] (QaJ σ1).ts):=Hi ⟨pos-σ1.lcl,by omega,by omega,by show σ1.p-σ1.lcl≤_;omega,by
        rw[show off+(pos-σ1.lcl)-(σ1.p-σ1.lcl)=0 by omega,List.take_zero]⟩
       have HPO:Hid ((off:Int)+((pos:Int)-(σ1.lcl:Int))=((σ1.p-σ1.lcl:Nat):Int)):=Hi (by omega);by_cases hcol:0<σ1.col
       ·have hcol':decide (0<σ1.col)=true:=decide_eq_true hcol
        have HC:=Hi hcol
        go_wp2_with fail
        go_meet
        refine⟨⟨_,[],off,pos,en,HX.out.move ((HS5.out.s_pl _).s_pc _) (Qc8 ((HE5.out.setb _ _).setb _ _) hblo) {HWF.out with tok:=HTOK.out,fpo:=HPO.out,fpl:=?_,fpc:=?_} rfl⟩,(HF5.out.set _ _).set _ _,Qag (Qag HK5.out hrkb _) hrkb _⟩
        ·exact(if_pos HC.out).symm
        ·exact(if_pos HC.out).symm
       ·have hcol':decide (0<σ1.col)=false:=decide_eq_false hcol
        have HC:=Hi hcol
        go_wp2_with fail
        go_meet
        refine⟨⟨_,[],off,pos,en,HX.out.move ((HS5.out.s_pl _).s_pc _) (Qc8 ((HE5.out.setb _ _).setb _ _) hblo) {HWF.out with tok:=HTOK.out,fpo:=HPO.out,fpl:=?_,fpc:=?_} rfl⟩,(HF5.out.set _ _).set _ _,Qag (Qag HK5.out hrkb _) hrkb _⟩
        ·exact(if_neg (Int.not_lt.2 HC.out)).symm
        ·exact(if_neg (Int.not_lt.2 HC.out)).symm
      case rest =>
       obtain⟨h6,F6,K6⟩:=hcut;have HS6:=Hi h6;clear h6;have HF6:=Hi F6;clear F6;have HK6:=Hi K6;clear K6;clear d0 d1 d2 d3 d4 e0 e1 hblt HS5 HE5 HF5 HK5 HS4 HE4 HF4 HK4 HS3 HE3 HF3 HK3 HWF HX hp1 hp2 hp3 hp4 hp5 hp6 g1 g2 g3;obtain⟨w6,hw6⟩:∃w6,w6=wc:=⟨_,rfl⟩
       subst hw6
       go_upto_block 2 with(fail)
       go_cut [3,4] (fun s3 s4 wx=>SwR t r lo b w6 Res s3 s4 wx)
       case first =>
        by_cases hm1:c1=-1
        ·have hr:Res=(0,(c1,QaJ σ1)):=by rw[HR0.out,if_pos hm1]
         have HR:=Hi hr;clear hr HR0;have q1:(c1==-1)=true:=by simpa using hm1
         have HM1:=Hi hm1;clear hm1
         go_wp2_with fail
         go_meet
         rw[HR.out];exact⟨rfl,rfl,HS6.out,Fr.refl _ _ _ _⟩
        have hr1:=HR0.out;rw[if_neg hm1]at hr1;clear HR0;have q1:(c1==-1)=false:=by simpa using hm1
        clear hm1;cases hid:isId c1 true with
        | true =>
         rw[if_pos hid]at hr1;have HR:=Hi hr1;clear hr1;have HI:Hid (∀w,Calls Tryz.prog 124 #[.int .i32 c1,.bool true] w fun e w'=>e=.returned (.bool true)∧w'=w):=Hi (by have:=id_c c1 true;rw[hid]at this;exact this);clear hid
         go_wp2_with(go_at_call 124;(with_reducible refine(HI.out _).mono ?_);rintro e w' ⟨rfl,rfl⟩)
         refine(scanId_c HS6.out).mono ?_;rintro e w7⟨rfl,h7,F7⟩;have HS7:=Hi h7;clear h7;have HF7:=Hi F7;clear F7;generalize Qc3 t (QaJ σ1)=s7 at *
         go_wp2_with fail
         go_meet
         rw[HR.out];exact⟨rfl,rfl,HS7.out,HF7.out⟩
        | false =>
        rw[if_neg (by rw[hid];decide)]at hr1;have HI:Hid (∀w,Calls Tryz.prog 124 #[.int .i32 c1,.bool true] w fun e w'=>e=.returned (.bool false)∧w'=w):=Hi (by have:=id_c c1 true;rw[hid]at this;exact this);clear hid;cases hnum:QaZ c1 with
        | true =>
         rw[if_pos hnum]at hr1;have HR:=Hi hr1;clear hr1;have HN:Hid (∀w,Calls Tryz.prog 126 #[.int .i32 c1] w fun e w'=>e=.returned (.bool true)∧w'=w):=Hi (by have:=Qhj c1;rw[hnum]at this;exact this);clear hnum
         go_wp2_with(first | (go_at_call 124;(with_reducible refine(HI.out _).mono ?_);rintro e w' ⟨rfl,rfl⟩) | (go_at_call 126;(with_reducible refine(HN.out _).mono ?_);rintro e w' ⟨rfl,rfl⟩))
         refine(Qhn c1 HS6.out).mono ?_;rintro e w7⟨rfl,h7,F7⟩;have HS7:=Hi h7;clear h7;have HF7:=Hi F7;clear F7;generalize QbN t (c1,QaJ σ1)=s7 at *
         go_wp2_with fail
         go_meet
         rw[HR.out];exact⟨rfl,rfl,HS7.out,HF7.out⟩
        | false =>
        rw[if_neg (by rw[hnum];decide)]at hr1;have HN:Hid (∀w,Calls Tryz.prog 126 #[.int .i32 c1] w fun e w'=>e=.returned (.bool false)∧w'=w):=Hi (by have:=Qhj c1;rw[hnum]at this;exact this);clear hnum;by_cases h34:c1=34
        ·rw[if_pos h34]at hr1
         have HR:=Hi hr1;clear hr1;have q2:(c1==34)=true:=by simpa using h34
         clear h34
         go_wp2_with(first | (go_at_call 124;(with_reducible refine(HI.out _).mono ?_);rintro e w' ⟨rfl,rfl⟩) | (go_at_call 126;(with_reducible refine(HN.out _).mono ?_);rintro e w' ⟨rfl,rfl⟩))
         refine(Qhs HS6.out).mono ?_;rintro e w7⟨⟨n7,rfl⟩,h7,F7⟩;have HS7:=Hi h7;clear h7;have HF7:=Hi F7;clear F7
         go_wp2_with fail
         refine(QaX HS7.out).mono ?_;rintro e w8⟨rfl,h8,F8⟩;have HS8:=Hi h8;clear h8;have HF8:=Hi (HF7.out.trans F8);clear F8;generalize nxt t (QbC t (QaJ σ1))=s8 at *
         go_wp2_with fail
         go_meet
         rw[HR.out];exact⟨rfl,rfl,HS8.out,HF8.out⟩
        rw[if_neg h34]at hr1;have q2:(c1==34)=false:=by simpa using h34
        clear h34;by_cases h47:c1=47
        ·rw[if_pos h47]at hr1
         have HR1:=Hi hr1;clear hr1;have HST:Hid (∀v,nxt t (QaJ σ1)=v→(v.1=47∨v.1=42)→mu t (QaT t (v.1,{v.2 with ts:=none}))+1<mu t (c,σ')):=Hi fun v hv hc=>HSTEP.out v hv h47 hc
         subst h47
         go_wp2_with(first | (go_at_call 124;(with_reducible refine(HI.out _).mono ?_);rintro e w' ⟨rfl,rfl⟩) | (go_at_call 126;(with_reducible refine(HN.out _).mono ?_);rintro e w' ⟨rfl,rfl⟩))
         refine(QaX HS6.out).mono ?_;rintro e w7⟨rfl,h7,F7⟩;have HK7:=Hi (F7.heap HK6.out (by decide) hrkr hrkb);have HF7:=Hi F7;clear F7;have hsv:=HST.out _ rfl;have HSV:=Hi hsv;clear hsv HST HSTEP;generalize nxt t (QaJ σ1)=s7 at *;obtain⟨c7,σ7⟩:=s7;simp only at h7 HR1 HSV;by_cases hc7:c7=47∨c7=42
         ·have HE:Hid (Res=Qb4 t f (QaT t (c7,{σ7 with ts:=none}))):=Hi (by rw[HR1.out,if_pos hc7])
          have HMM:=Hi (HSV.out hc7);obtain⟨hb7,⟨v7,d7⟩,e7⟩:=h7.cells;have HS7:=Hi h7;clear h7;have HC7:=Hi hc7;rcases hc7 with rfl | rfl
          all_goals
           go_wp2_with fail
           refine(Qhu _ HS7.out.setTs).mono ?_;rintro e w8⟨rfl,h8,F8⟩;have HS8:=Hi h8;clear h8;have HK8:=Hi (F8.heap (Qag HK7.out hrkb _) (by decide) hrkr hrkb);have HF8:=Hi ((HF7.out.set _ _).trans F8);clear F8;have hmm:=HMM.out;clear HMM;generalize QaT t _=s8 at *;obtain⟨c8,σ8⟩:=s8;simp only at HS8
           go_wp2_with fail
           go_step3
           have hm0:=HM.out;refine⟨rfl,⟨rfl,f,c8,σ8,rfl,HS8.out,HF6.out.trans HF8.out,by omega,HE.out.symm,HK8.out⟩,?_⟩;show muW t.length b (.int .i32 c8) w8<muW t.length b (.int .i32 c) wr;rw[HS8.out.mu,HMU.out];omega
         ·have HE:Hid (Res=Qbo t 47 (c7,σ7)):=Hi (by rw[HR1.out,if_neg hc7])
          have q3:(c7==47)=false:=by simp;omega
          have q4:(c7==42)=false:=by simp;omega
          have HS7:=Hi h7;clear h7 hc7
          go_wp2_with fail
          refine(Qf2 47 c7 HS7.out).mono ?_;rintro e w8⟨rfl,h8,F8⟩;have HS8:=Hi h8;clear h8;have HF8:=Hi (HF7.out.trans F8);clear F8;generalize Qbo t 47 (c7,σ7)=s8 at *;obtain⟨k8,c8,σ8⟩:=s8;simp only at HS8
          go_wp2_with fail
          go_meet
          rw[HE.out];exact⟨rfl,rfl,HS8.out,HF8.out⟩
        ·rw[if_neg h47]at hr1
         have HR1:=Hi hr1;clear hr1;have q3:(c1==47)=false:=by simpa using h47
         clear h47
         go_wp2_with(first | (go_at_call 124;(with_reducible refine(HI.out _).mono ?_);rintro e w' ⟨rfl,rfl⟩) | (go_at_call 126;(with_reducible refine(HN.out _).mono ?_);rintro e w' ⟨rfl,rfl⟩))
         refine(QaX HS6.out).mono ?_;rintro e w7⟨rfl,h7,F7⟩;have HS7:=Hi h7;clear h7;have HF7:=Hi F7;clear F7;generalize nxt t (QaJ σ1)=s7 at *;obtain⟨c7,σ7⟩:=s7;simp only at HS7
         go_wp2_with fail
         refine(Qf2 c1 c7 HS7.out).mono ?_;rintro e w8⟨rfl,h8,F8⟩;have HS8:=Hi h8;clear h8;have HF8:=Hi (HF7.out.trans F8);clear F8;generalize Qbo t c1 (c7,σ7)=s8 at *;obtain⟨k8,c8,σ8⟩:=s8;simp only at HS8
         go_wp2_with fail
         go_meet
         rw[HR1.out];exact⟨rfl,rfl,HS8.out,HF8.out⟩
       case rest =>
        obtain⟨rfl,rfl,h7,F7⟩:=hcut;have HK7:=Hi (F7.heap HK6.out (by decide) hrkr hrkb);have HF7:=Hi (HF6.out.trans F7);clear F7;clear HR0 HSTEP HMU HM HS6 HK6 HF6;obtain⟨kind,c7,σ7⟩:=Res;obtain⟨ks,hks⟩:=HTS.out;simp only at h7 HRES hks;have HKS:=Hi hks;clear hks;have HOUT:=Hi HRES.out;clear HRES HTS HGR;obtain⟨w7,hw7⟩:∃w7,w7=wc:=⟨_,rfl⟩
        subst hw7;obtain⟨F,tb,off,pos,en,X⟩:=h7;have hblt:=X.sn.lt;have hblo:=X.sn.hlo;have d0:=X.sn.c_pos;have d1:=X.sn.c_lcl;have d2:=X.sn.c_te;have d3:=X.sn.c_ch;rw[X.wf.fpos]at d0;rw[X.wf.flcl]at d1;have hp3:=X.wf.le1;have hp4:=X.wf.le2;have hp5:=X.wf.lcle;have g1:(σ7.lcl:Int)≤(pos:Int):=by omega
        have g2:(pos:Int)≤1024:=by omega
        have e0:=X.sn.free 1037;have e1:=X.sn.free 1038;have HX:=Hi X;clear X
        go_wp2_with fail
        go_region
        all_goals
         go_wp2_with fail
         refine Qgf fun w8 hw8=>?_
         have X8:SWX t r lo b {σ7 with ch:=c7} {σ7 with ch:=c7}.lcl w8 {F with te:=(pos:Int)-(σ7.lcl:Int),ch:=c7} tb off pos en:=hw8▸HX.out.move (((HX.out.sn.s_te _).s_ch c7).drew) ((((Ext.refl _ _).set (.inl hblo) _).set (.inl hblo) _).drew) {HX.out.wf with fch:=rfl} rfl;have HF8:Hid (Fr r.rb b lo w w8):=Hi (hw8▸((HF7.out.set _ _).set _ _).drew);have HK8:Hid (w8.heap[rk]? =some (.cells zTok 122 (0,0))):=Hi (hw8▸Qag (Qag HK7.out hrkb _) hrkb _)
         clear hw8;obtain⟨tx,htx⟩:∃tx:ByteArray,tx=⟨(tokT t ks (σ7.p-σ7.lcl)).toArray⟩:=⟨_,rfl⟩
         have HTC:Calls Tryz.prog 131 #[.pointer (some ⟨b,0,none⟩)] w8 fun e w'=>e=.returned (.string tx)∧SW t r lo b {σ7 with ch:=c7} w'∧Fr r.rb b lo w8 w':=by rw[htx];exact text_c (s:=ks) X8 rfl HKS.out
         refine HTC.mono ?_;clear HTC;rintro e w9⟨rfl,h9,F9⟩;have HK9:=Hi (F9.heap HK8.out (by decide) hrkr hrkb);have HF9:=Hi (HF8.out.trans F9);clear F9 X8;have HTO:Hid (Qdx t kind σ7={ty:=if kind=1∧Qdv tx=true then 3 else kind,fn:=⟨#[]⟩,off:=σ7.po,ln:=σ7.pl,col:=σ7.pc,tx:=tx}):=Hi (by unfold Qdx;simp only;rw[HKS.out,htx];rfl);clear htx;clear d0 d1 d2 d3 e0 e1;have HS9:=Hi h9;obtain⟨F9,tb9,off9,pos9,en9,X9⟩:=h9
         have HX9:=Hi X9;clear X9;by_cases hk1:kind=1
         ·cases hres:Qdv tx with
          | true =>
           have HI:Hid (∀w,Calls Tryz.prog 132 #[.string tx] w fun e w'=>e=.returned (.bool true)∧Below w.heap.size w w'):=Hi (by have:=keyw_c tx;rw[hres]at this;exact this);have HTT:Hid (Qdx t kind σ7={ty:=3,fn:=⟨#[]⟩,off:=σ7.po,ln:=σ7.pl,col:=σ7.pc,tx:=tx}):=Hi (by rw[HTO.out,if_pos ⟨hk1,hres⟩]);clear hres;subst hk1
           go_wp2_with fail
           refine(HI.out _).mono ?_;rintro e w10⟨rfl,hB10⟩;have X10:=HX9.out.move (HX9.out.sn.old hB10) (.below hB10) HX9.out.wf rfl;have HF10:=Hi (HF9.out.trans (Fr.below hB10));have hK10:=(hB10.block _ (Qad HK9.out)).trans HK9.out;have d0:=X10.sn.c_pf;have d1:=X10.sn.c_po;have d2:=X10.sn.c_pl;have d3:=X10.sn.c_pc;rw[X10.wf.fpf]at d0;rw[X10.wf.fpo]at d1;rw[X10.wf.fpl]at d2;rw[X10.wf.fpc]at d3;simp only at d1 d2 d3
           have hrlt:=Qad hK10;have k0:w10.cell? ⟨rk,0,none⟩=some (.int .i64 0):=Qaa hK10 rfl;have k1:w10.cell? ⟨rk,1,none⟩=some (.string ⟨#[]⟩):=Qaa hK10 rfl;have k2:w10.cell? ⟨rk,2,none⟩=some (.int .i64 0):=Qaa hK10 rfl;have k3:w10.cell? ⟨rk,3,none⟩=some (.int .i64 0):=Qaa hK10 rfl;have k4:w10.cell? ⟨rk,4,none⟩=some (.int .i64 0):=Qaa hK10 rfl;have k5:w10.cell? ⟨rk,5,none⟩=some (.string ⟨#[]⟩):=Qaa hK10 rfl
           have kf0:=Qae hK10 0;have kf1:=Qae hK10 1;have kf2:=Qae hK10 2;have kf3:=Qae hK10 3;have kf4:=Qae hK10 4;have kf5:=Qae hK10 5;have HK10:=Hi hK10;clear hK10;have HX10:=Hi X10;clear X10;clear hB10
           go_wp2_with fail
           have hrk2:w.heap.size≤rk:=Nat.le_of_eq HRK.out;have hlo2:lo≤rk:=by obtain⟨_,_,_,_,_,X⟩:=HSW.out;have:=X.hlo;omega
           show bodyPost Tryz.prog Tryz.f88 (TkP t r lo b w Out) Exit.ret _ _;refine(fun hfin=>bodyPost_ret (Qao (a:=2) (t:=122) (by kernel_rfl) _ ⟨rk,0,none⟩ rfl _ _ (QfW rk 0 _ (.int .i64 3) (.string ⟨#[]⟩) (.int .i64 σ7.po) (.int .i64 σ7.pl) (.int .i64 σ7.pc) (.string tx) (by kernel_rfl) (by kernel_rfl) (Qaa (o:=0) hfin rfl) (Qaa (o:=1) hfin rfl) (Qaa (o:=2) hfin rfl) (Qaa (o:=3) hfin rfl) (Qaa (o:=4) hfin rfl) (Qaa (o:=5) hfin rfl))) rfl ?_) (Qac (o:=5) (Qac (o:=4) (Qac (o:=3) (Qac (o:=2) (Qac (o:=1) (Qac (o:=0) HK10.out _) _) _) _) _) _)
           rw[HOUT.out];have EK:=((((((Ext.refl (fun d=>d=rk) w10).setb 0 (.int .i64 3)).setb 1 (.string ⟨#[]⟩)).setb 2 (.int .i64 σ7.po)).setb 3 (.int .i64 σ7.pl)).setb 4 (.int .i64 σ7.pc)).setb 5 (.string tx);refine⟨by rw[HTT.out],⟨_,_,_,_,_,HX10.out.move (HX10.out.sn.other EK (fun h=>hrkb h.symm) ?_) (EK.mono fun d h=>by subst h;exact hlo2) HX10.out.wf rfl⟩,?_⟩
           ·intro d hd cc ff hcc
            subst hd;rw[HK10.out]at hcc
            injection hcc with hcc
            injection hcc with _ hcc _
            exact absurd hcc (by decide)
           ·exact((((((Ext.set (a:=w) HF10.out (p:=⟨rk,0,none⟩) (.inr hrk2) _).set (p:=⟨rk,1,none⟩) (.inr hrk2) _).set (p:=⟨rk,2,none⟩) (.inr hrk2) _).set (p:=⟨rk,3,none⟩) (.inr hrk2) _).set (p:=⟨rk,4,none⟩) (.inr hrk2) _).set (p:=⟨rk,5,none⟩) (.inr hrk2) _)
          | false =>
           have HI:Hid (∀w,Calls Tryz.prog 132 #[.string tx] w fun e w'=>e=.returned (.bool false)∧Below w.heap.size w w'):=Hi (by have:=keyw_c tx;rw[hres]at this;exact this);have HTT:Hid (Qdx t kind σ7={ty:=1,fn:=⟨#[]⟩,off:=σ7.po,ln:=σ7.pl,col:=σ7.pc,tx:=tx}):=Hi (by rw[HTO.out,if_neg (by rw[hres];simp),hk1]);clear hres;subst hk1
           go_wp2_with fail
           refine(HI.out _).mono ?_;rintro e w10⟨rfl,hB10⟩;have X10:=HX9.out.move (HX9.out.sn.old hB10) (.below hB10) HX9.out.wf rfl;have HF10:=Hi (HF9.out.trans (Fr.below hB10));have hK10:=(hB10.block _ (Qad HK9.out)).trans HK9.out;have d0:=X10.sn.c_pf;have d1:=X10.sn.c_po;have d2:=X10.sn.c_pl;have d3:=X10.sn.c_pc;rw[X10.wf.fpf]at d0;rw[X10.wf.fpo]at d1;rw[X10.wf.fpl]at d2;rw[X10.wf.fpc]at d3;simp only at d1 d2 d3
           have hrlt:=Qad hK10;have k0:w10.cell? ⟨rk,0,none⟩=some (.int .i64 0):=Qaa hK10 rfl;have k1:w10.cell? ⟨rk,1,none⟩=some (.string ⟨#[]⟩):=Qaa hK10 rfl;have k2:w10.cell? ⟨rk,2,none⟩=some (.int .i64 0):=Qaa hK10 rfl;have k3:w10.cell? ⟨rk,3,none⟩=some (.int .i64 0):=Qaa hK10 rfl;have k4:w10.cell? ⟨rk,4,none⟩=some (.int .i64 0):=Qaa hK10 rfl;have k5:w10.cell? ⟨rk,5,none⟩=some (.string ⟨#[]⟩):=Qaa hK10 rfl
           have kf0:=Qae hK10 0;have kf1:=Qae hK10 1;have kf2:=Qae hK10 2;have kf3:=Qae hK10 3;have kf4:=Qae hK10 4;have kf5:=Qae hK10 5;have HK10:=Hi hK10;clear hK10;have HX10:=Hi X10;clear X10;clear hB10
           go_wp2_with fail
           have hrk2:w.heap.size≤rk:=Nat.le_of_eq HRK.out;have hlo2:lo≤rk:=by obtain⟨_,_,_,_,_,X⟩:=HSW.out;have:=X.hlo;omega
           show bodyPost Tryz.prog Tryz.f88 (TkP t r lo b w Out) Exit.ret _ _;refine(fun hfin=>bodyPost_ret (Qao (a:=2) (t:=122) (by kernel_rfl) _ ⟨rk,0,none⟩ rfl _ _ (QfW rk 0 _ (.int .i64 1) (.string ⟨#[]⟩) (.int .i64 σ7.po) (.int .i64 σ7.pl) (.int .i64 σ7.pc) (.string tx) (by kernel_rfl) (by kernel_rfl) (Qaa (o:=0) hfin rfl) (Qaa (o:=1) hfin rfl) (Qaa (o:=2) hfin rfl) (Qaa (o:=3) hfin rfl) (Qaa (o:=4) hfin rfl) (Qaa (o:=5) hfin rfl))) rfl ?_) (Qac (o:=5) (Qac (o:=4) (Qac (o:=3) (Qac (o:=2) (Qac (o:=1) (Qac (o:=0) HK10.out _) _) _) _) _) _)
           rw[HOUT.out];have EK:=((((((Ext.refl (fun d=>d=rk) w10).setb 0 (.int .i64 1)).setb 1 (.string ⟨#[]⟩)).setb 2 (.int .i64 σ7.po)).setb 3 (.int .i64 σ7.pl)).setb 4 (.int .i64 σ7.pc)).setb 5 (.string tx);refine⟨by rw[HTT.out],⟨_,_,_,_,_,HX10.out.move (HX10.out.sn.other EK (fun h=>hrkb h.symm) ?_) (EK.mono fun d h=>by subst h;exact hlo2) HX10.out.wf rfl⟩,?_⟩
           ·intro d hd cc ff hcc
            subst hd;rw[HK10.out]at hcc
            injection hcc with hcc
            injection hcc with _ hcc _
            exact absurd hcc (by decide)
           ·exact((((((Ext.set (a:=w) HF10.out (p:=⟨rk,0,none⟩) (.inr hrk2) _).set (p:=⟨rk,1,none⟩) (.inr hrk2) _).set (p:=⟨rk,2,none⟩) (.inr hrk2) _).set (p:=⟨rk,3,none⟩) (.inr hrk2) _).set (p:=⟨rk,4,none⟩) (.inr hrk2) _).set (p:=⟨rk,5,none⟩) (.inr hrk2) _)
         ·have HTT:Hid (Qdx t kind σ7={ty:=kind,fn:=⟨#[]⟩,off:=σ7.po,ln:=σ7.pl,col:=σ7.pc,tx:=tx}):=Hi (by rw[HTO.out,if_neg (fun h=>hk1 h.1)])
          have hk1':(kind==1)=false:=by simpa using hk1
          clear hk1;obtain⟨w10,hw10⟩:∃w10,w10=w9:=⟨_,rfl⟩
          subst hw10;have hB10:=Below.refl w10.heap.size w10;have X10:=HX9.out.move (HX9.out.sn.old hB10) (.below hB10) HX9.out.wf rfl;have HF10:=Hi (HF9.out.trans (Fr.below hB10));have hK10:=(hB10.block _ (Qad HK9.out)).trans HK9.out;have d0:=X10.sn.c_pf;have d1:=X10.sn.c_po;have d2:=X10.sn.c_pl;have d3:=X10.sn.c_pc;rw[X10.wf.fpf]at d0;rw[X10.wf.fpo]at d1;rw[X10.wf.fpl]at d2;rw[X10.wf.fpc]at d3;simp only at d1 d2 d3
          have hrlt:=Qad hK10;have k0:w10.cell? ⟨rk,0,none⟩=some (.int .i64 0):=Qaa hK10 rfl;have k1:w10.cell? ⟨rk,1,none⟩=some (.string ⟨#[]⟩):=Qaa hK10 rfl;have k2:w10.cell? ⟨rk,2,none⟩=some (.int .i64 0):=Qaa hK10 rfl;have k3:w10.cell? ⟨rk,3,none⟩=some (.int .i64 0):=Qaa hK10 rfl;have k4:w10.cell? ⟨rk,4,none⟩=some (.int .i64 0):=Qaa hK10 rfl;have k5:w10.cell? ⟨rk,5,none⟩=some (.string ⟨#[]⟩):=Qaa hK10 rfl
          have kf0:=Qae hK10 0;have kf1:=Qae hK10 1;have kf2:=Qae hK10 2;have kf3:=Qae hK10 3;have kf4:=Qae hK10 4;have kf5:=Qae hK10 5;have HK10:=Hi hK10;clear hK10;have HX10:=Hi X10;clear X10;clear hB10
          go_wp2_with fail
          have hrk2:w.heap.size≤rk:=Nat.le_of_eq HRK.out;have hlo2:lo≤rk:=by obtain⟨_,_,_,_,_,X⟩:=HSW.out;have:=X.hlo;omega
          show bodyPost Tryz.prog Tryz.f88 (TkP t r lo b w Out) Exit.ret _ _;refine(fun hfin=>bodyPost_ret (Qao (a:=2) (t:=122) (by kernel_rfl) _ ⟨rk,0,none⟩ rfl _ _ (QfW rk 0 _ (.int .i64 kind) (.string ⟨#[]⟩) (.int .i64 σ7.po) (.int .i64 σ7.pl) (.int .i64 σ7.pc) (.string tx) (by kernel_rfl) (by kernel_rfl) (Qaa (o:=0) hfin rfl) (Qaa (o:=1) hfin rfl) (Qaa (o:=2) hfin rfl) (Qaa (o:=3) hfin rfl) (Qaa (o:=4) hfin rfl) (Qaa (o:=5) hfin rfl))) rfl ?_) (Qac (o:=5) (Qac (o:=4) (Qac (o:=3) (Qac (o:=2) (Qac (o:=1) (Qac (o:=0) HK10.out _) _) _) _) _) _)
          rw[HOUT.out];have EK:=((((((Ext.refl (fun d=>d=rk) w10).setb 0 (.int .i64 kind)).setb 1 (.string ⟨#[]⟩)).setb 2 (.int .i64 σ7.po)).setb 3 (.int .i64 σ7.pl)).setb 4 (.int .i64 σ7.pc)).setb 5 (.string tx);refine⟨by rw[HTT.out],⟨_,_,_,_,_,HX10.out.move (HX10.out.sn.other EK (fun h=>hrkb h.symm) ?_) (EK.mono fun d h=>by subst h;exact hlo2) HX10.out.wf rfl⟩,?_⟩
          ·intro d hd cc ff hcc
           subst hd;rw[HK10.out]at hcc
           injection hcc with hcc
           injection hcc with _ hcc _
           exact absurd hcc (by decide)
          ·exact((((((Ext.set (a:=w) HF10.out (p:=⟨rk,0,none⟩) (.inr hrk2) _).set (p:=⟨rk,1,none⟩) (.inr hrk2) _).set (p:=⟨rk,2,none⟩) (.inr hrk2) _).set (p:=⟨rk,3,none⟩) (.inr hrk2) _).set (p:=⟨rk,4,none⟩) (.inr hrk2) _).set (p:=⟨rk,5,none⟩) (.inr hrk2) _)
 ·intro HP
  have HPASS:=Hi HP;clear HP;clear hrk
  go_upto_region 1 with(fail)
  refine Qba fun w1 hw1=>?_
  have hK1:w1.heap[rk]? =some (.cells zTok 122 (0,0)):=by rw[hw1,←HRK.out];exact heap_alloc_new _ _
  have h1:SW t r lo b σ w1:=by
   obtain⟨F,tb,off,pos,en,X⟩:=HSW.out;exact hw1▸⟨F,tb,off,pos,en,X.move (X.sn.alloc _) ((Ext.refl _ _).alloc _) X.wf rfl⟩
  have F1:Fr r.rb b lo w w1:=hw1▸(Fr.refl _ _ _ _).alloc _;have HF1:=Hi F1;clear F1;have HK1:=Hi hK1;clear hK1;have HS1:=Hi h1;rw[HRK.out];clear hw1;obtain⟨F,tb,off,pos,en,X⟩:=h1;have hblt:=X.sn.lt;have hblo:=X.sn.hlo;have d0:=X.sn.c_ch;have d1:=X.sn.c_tp;have d2:=X.sn.c_pl;rw[X.wf.fch]at d0;have e0:=X.sn.free 1036;have e1:=X.sn.free 1038;have e2:=X.sn.free 1042;have HX:=Hi X;clear X;by_cases hch:σ.ch=-2
  ·have HC:=Hi hch
   rw[hch]at d0;clear hch
   go_wp2_with fail
   refine(QaX HS1.out).mono ?_;rintro e w2⟨rfl,h2,F2⟩;have HF2:=Hi (HF1.out.trans F2);have HK2:=Hi (F2.heap HK1.out (by decide) hrkr hrkb);clear F2 HX d0 d1 d2 e0 e1 e2 hblt hblo HF1 HK1 HS1 F tb off pos en;obtain⟨F,tb,off,pos,en,X⟩:=h2;have hblt:=X.sn.lt;have hblo:=X.sn.hlo;have d0:=X.sn.c_ch;have d1:=X.sn.c_tp;have d2:=X.sn.c_pl;have e0:=X.sn.free 1036;have e1:=X.sn.free 1038;have e2:=X.sn.free 1042
   have HX:=Hi X;clear X;have HST:Hid (QaG t σ=((nxt t σ).1,{(nxt t σ).2 with ch:=(nxt t σ).1,ts:=none,pl:=0})):=Hi (by unfold QaG;rw[if_pos HC.out]);generalize nxt t σ=s2 at *;obtain⟨c2,σ2⟩:=s2;simp only at HX HST
   go_wp2_with fail
   go_step3
   first | refine HPASS.out _ _ ?_ | (go_step;refine HPASS.out _ _ ?_) | (go_step;go_step;refine HPASS.out _ _ ?_) | trace_state
   refine⟨rfl,t.length+3,c2,{σ2 with ch:=c2,ts:=none,pl:=0},rfl,⟨_,_,_,_,_,HX.out.move (((HX.out.sn.s_ch c2).s_tp (-1)).s_pl 0) ?_ {HX.out.wf with fch:=rfl,tok:=rfl,fpl:=rfl} rfl⟩,?_,by have:=Qfd t (c2,{σ2 with ch:=c2,ts:=none,pl:=0});omega,by rw[←HST.out];exact HGR.out,?_⟩
   ·exact(((Ext.refl _ _).set (.inl hblo) _).set (.inl hblo) _).set (.inl hblo) _
   ·exact((HF2.out.set _ _).set _ _).set _ _
   ·exact Qag (Qag (Qag HK2.out hrkb _) hrkb _) hrkb _
  ·have hch':(σ.ch==-2)=false:=by simpa using hch
   have HC:=Hi hch;clear hch;have HST:Hid (QaG t σ=(σ.ch,{σ with ts:=none,pl:=0})):=Hi (by unfold QaG;rw[if_neg HC.out])
   go_wp2_with fail
   go_step3
   first | refine HPASS.out _ _ ?_ | (go_step;refine HPASS.out _ _ ?_) | (go_step;go_step;refine HPASS.out _ _ ?_) | trace_state
   refine⟨rfl,t.length+3,σ.ch,{σ with ts:=none,pl:=0},rfl,⟨_,_,_,_,_,HX.out.move ((HX.out.sn.s_tp (-1)).s_pl 0) ?_ {HX.out.wf with tok:=rfl,fpl:=rfl} rfl⟩,?_,by have:=Qfd t (σ.ch,{σ with ts:=none,pl:=0});omega,by rw[←HST.out];exact HGR.out,?_⟩
   ·exact((Ext.refl _ _).set (.inl hblo) _).set (.inl hblo) _
   ·exact(HF1.out.set _ _).set _ _
   ·exact Qag (Qag HK1.out hrkb _) hrkb _
variable {t:List UInt8}{r:Rdr}{lo b:Nat}{σ:Sc}{w w':World}
def F0:Fd:={src:=.nilIface,buf:=fun _=>0,pos:=0,en:=0,off:=0,ln:=0,col:=0,lll:=0,lcl:=0,tp:=0,te:=0,ch:=0,er:=.nilIface,pf:=.string ⟨#[]⟩,po:=0,pl:=0,pc:=0}
theorem Qhy:Tryz.zeroCells249.toList=.nilIface::(List.replicate 1025 (.int .u8 0)++[.int .i64 0,.int .i64 0,.int .i64 0,.int .i64 0,.int .i64 0,.int .i64 0,.int .i64 0,.slice none 0 0,.int .i64 0,.int .i8 0,.int .i64 0,.int .i64 0,.int .i32 0,.nilIface,.string ⟨#[]⟩,.int .i64 0,.int .i64 0,.int .i64 0]):=by kernel_rfl
theorem Qff(i:Nat)(hi:i<1033∨1036≤i):Tryz.zeroCells249[i]? =RF F0 i:=by
 rw[←Array.getElem?_toList,Qhy];cases i with
 | zero=>rfl
 | succ i =>
  rw[List.getElem?_cons_succ];by_cases h:i<1025
  ·rw[List.getElem?_append_left (by rw[List.length_replicate];exact h),List.getElem?_replicate,if_pos h]
   unfold RF;rw[if_neg (by omega),if_pos (by omega)];rfl
  ·rw[List.getElem?_append_right (by rw[List.length_replicate];omega),List.length_replicate]
   by_cases h2:i<1043
   ·have hcases:i=1025∨i=1026∨i=1027∨i=1028∨i=1029∨i=1030∨i=1031∨i=1035∨i=1036∨i=1037∨i=1038∨i=1039∨i=1040∨i=1041∨i=1042:=by omega
    rcases hcases with rfl | rfl | rfl | rfl | rfl | rfl | rfl | rfl | rfl | rfl | rfl | rfl | rfl | rfl | rfl<;>rfl
   ·rw[List.getElem?_eq_none (by simp only[List.length_cons,List.length_nil];omega)]
    unfold RF;simp only[show ¬i+1=0 by omega,show ¬i+1≤1025 by omega,show ¬i+1=1026 by omega,show ¬i+1=1027 by omega,show ¬i+1=1028 by omega,show ¬i+1=1029 by omega,show ¬i+1=1030 by omega,show ¬i+1=1031 by omega,show ¬i+1=1032 by omega,show ¬i+1<1036 by omega,show ¬i+1=1036 by omega,show ¬i+1=1037 by omega,show ¬i+1=1038 by omega,show ¬i+1=1039 by omega,show ¬i+1=1040 by omega,show ¬i+1=1041 by omega,show ¬i+1=1042 by omega,show ¬i+1=1043 by omega,if_false]
theorem sn_zero(w:World)(lo:Nat)(h:lo≤w.heap.size):Sn (w.alloc (.cells Tryz.zeroCells249 249)) lo w.heap.size F0 []:=by
 refine LibA.zero_isBuffer h (lr:=0) ⟨Tryz.zeroCells249,heap_alloc_new w _,?_,?_,?_,Qff⟩
 all_goals(rw[←Array.getElem?_toList,Qhy,List.getElem?_cons_succ,List.getElem?_append_right (by rw[List.length_replicate];decide),List.length_replicate];rfl)
def σ0:Sc:={p:=0,ln:=1,col:=0,lll:=0,lcl:=0,er:=false,ts:=none,ch:=-2,po:=0,pl:=0,pc:=0}
theorem init_c(h:Sn w lo b F0 [])(hR:r.R w t)(hT:Lib.Utf8Tabs 1 2 w)(hE:∃a,w.cell? ⟨0,0,none⟩=some (.iface 346 (.pointer (some a))))(hlo:lo≤w.heap.size)(h15:15≤lo)(hl:t.length≤1000000)(hL:RdLaw r lo) :
  Calls Tryz.prog 87 #[.pointer (some ⟨b,0,none⟩),r.val] w fun e w'=>e=.returned (.pointer (some ⟨b,0,none⟩))∧SW t r lo b σ0 w'∧Ext (fun d=>d=b) w w':=by
 have hblt:=h.lt;have hblo:=h.hlo;have c0:=h.c_src;have c1:w.cell? ⟨b,1,none⟩=_:=h.bufAt 0 (by decide);have c2:=h.c_pos;have c3:=h.c_en;have c4:=h.c_off;have c5:=h.c_ln;have c6:=h.c_col;have c7:=h.c_lll;have c8:=h.c_lcl;have c9:=h.c_tp;have c10:=h.c_ch;have c11:=h.c_pl;have f0:=h.free 0;have f1:=h.free 1;have f2:=h.free 1026;have f3:=h.free 1027;have f4:=h.free 1028;have f5:=h.free 1029;have f6:=h.free 1030
 have f7:=h.free 1031;have f8:=h.free 1032;have f9:=h.free 1036;have f10:=h.free 1038;have f11:=h.free 1042;have H:=Hi h;have HR:=Hi hR;have HT:=Hi hT;have HE:=Hi hE;have HL:=Hi hL;clear h hR hT hE hL;go_enter Tryz.func87,Tryz.ntmps87
 go_wp2_with fail
 go_ret;have S1:=((((((((((((H.out.s_src r.val).s_buf 0 (by decide) 128).s_pos 0).s_en 0).s_off 0).s_ln 1).s_col 0).s_lll 0).s_lcl 0).s_tp (-1)).s_ch (-2)).s_pl 0);have E1:=((((((((((((Ext.refl (fun d=>d=b) w).setb 0 r.val).setb (1+0) (.int .u8 ((128:UInt8).toNat:Int))).setb 1026 (.int .i64 0)).setb 1027 (.int .i64 0)).setb 1028 (.int .i64 0)).setb 1029 (.int .i64 1)).setb 1030 (.int .i64 0)).setb 1031 (.int .i64 0)).setb 1032 (.int .i64 0)).setb 1036 (.int .i64 (-1))).setb 1038 (.int .i32 (-2))).setb 1042 (.int .i64 0)
 refine⟨rfl,⟨_,[],0,0,0,⟨S1,?_,?_,?_,?_,Nat.le_trans hlo E1.size,h15,hl,HL.out⟩⟩,E1⟩
 ·exact{fsrc:=rfl,fpos:=rfl,fen:=rfl,foff:=rfl,le1:=Nat.le_refl _,le2:=by decide,hp:=rfl,len:=Nat.zero_le _,buf:=(fun j hj=>absurd hj (Nat.not_lt_zero _)),sen:=rfl,fln:=rfl,fcol:=rfl,flll:=rfl,flcl:=rfl,lcle:=Nat.le_refl _,er0:=(fun _=>rfl),er1:=(fun h=>by cases h),fch:=rfl,fpf:=rfl,fpo:=rfl,fpl:=rfl,fpc:=rfl,tok:=rfl}
 ·exact HL.out.keep _ _ _ HR.out (Qc8 E1 hblo)
 ·exact Qbg HT.out E1 (by omega) (by omega)
 ·obtain⟨a,ha⟩:=HE.out
  exact⟨a,E1.cell (p:=⟨0,0,none⟩) (show ¬(0=b)by omega) ha⟩
theorem nxt_ge(t:List UInt8)(σ:Sc):-1≤(nxt t σ).1:=by
 unfold nxt
 repeat' split
 all_goals(simp only;omega)
def Ge(s:Cs):Prop:=-1≤s.1
theorem Ge.nxt(t:List UInt8)(σ:Sc):Ge (nxt t σ):=nxt_ge t σ
theorem Ge.idL(t:List UInt8):∀(f:Nat)(s:Cs),Ge s→Ge (idL t f s)
 | 0,s,h=>h
 | f+1,s,h=>by rw[Pg.idL];split;exact Ge.idL t f _ (Ge.nxt t _);exact h
theorem Ge.numL(t:List UInt8):∀(f:Nat)(s:Cs),Ge s→Ge (numL t f s)
 | 0,s,h=>h
 | f+1,s,h=>by rw[Pg.numL];split;exact Ge.numL t f _ (Ge.nxt t _);exact h
theorem Ge.wsL(t:List UInt8):∀(f:Nat)(s:Cs),Ge s→Ge (wsL t f s)
 | 0,s,h=>h
 | f+1,s,h=>by rw[Pg.wsL];split;exact Ge.wsL t f _ (Ge.nxt t _);exact h
theorem Ge.lineL(t:List UInt8):∀(f:Nat)(s:Cs),Ge s→Ge (lineL t f s)
 | 0,s,h=>h
 | f+1,s,h=>by rw[Pg.lineL];split;exact Ge.lineL t f _ (Ge.nxt t _);exact h
theorem Ge.comL(t:List UInt8):∀(f:Nat)(s:Cs),Ge s→Ge (comL t f s)
 | 0,s,h=>h
 | f+1,s,h=>by
  rw[Pg.comL];simp only;split
  ·exact h
  ·split
   ·exact Ge.nxt t _
   ·exact Ge.comL t f _ (Ge.nxt t _)
theorem Ge.com(t:List UInt8)(s:Cs):Ge (QaT t s):=by
 unfold QaT;split
 ·exact Ge.lineL t _ _ (Ge.nxt t _)
 ·exact Ge.comL t _ _ (Ge.nxt t _)
theorem Ge.op(t:List UInt8)(c0:Int)(s:Cs)(h:Ge s):Ge (Qbo t c0 s).2:=by
 unfold Qbo
 repeat' split
 all_goals first | exact h | exact Ge.nxt t _
theorem Qhz(t:List UInt8):∀(f:Nat)(s:Cs),Ge s→Ge (Qb4 t f s).2
 | 0,s,h=>h
 | f+1,s,h=>by
  rw[Qb4];simp only;have hu:Ge (QaA t s):=Ge.wsL t _ _ h;split
  ·exact hu
  ·split
   ·exact Ge.idL t _ _ (Ge.nxt t _)
   ·split
    ·exact Ge.numL t _ _ hu
    ·split
     ·exact Ge.nxt t _
     ·split
      ·split
       ·exact Qhz t f _ (Ge.com t _)
       ·exact Ge.op t _ _ (Ge.nxt t _)
      ·exact Ge.op t _ _ (Ge.nxt t _)
theorem idL_mu(t:List UInt8):∀(f:Nat)(s:Cs),mu t (idL t f s)≤mu t s
 | 0,s=>Nat.le_refl _
 | f+1,s=>by
  rw[idL];split
  ·rename_i h
   have h1:=idL_mu t f (nxt t s.2);have h2:=Qbk t s.2;have h3:mu t s=rem t s.2+1:=Qbc (c:=s.1) (σ:=s.2) (by intro e;rw[e]at h;exact absurd h (by decide));omega
  ·exact Nat.le_refl _
theorem Qh0(t:List UInt8):∀(f:Nat)(s:Cs),mu t (numL t f s)≤mu t s
 | 0,s=>Nat.le_refl _
 | f+1,s=>by
  rw[numL];split
  ·rename_i h
   have h1:=Qh0 t f (nxt t s.2);have h2:=Qbk t s.2;have h3:mu t s=rem t s.2+1:=Qbc (c:=s.1) (σ:=s.2) (by intro e;rw[e]at h;exact absurd h (by decide));omega
  ·exact Nat.le_refl _
theorem op_mu(t:List UInt8)(c0:Int)(s:Cs):mu t (Qbo t c0 s).2≤mu t s:=by
 have h2:=Qbk t s.2;have h3:s.1≠-1→mu t s=rem t s.2+1:=fun h=>Qbc (c:=s.1) (σ:=s.2) h
 unfold Qbo
 repeat' split
 all_goals first
  | exact Nat.le_refl _
  | (have:=h3 (by omega);simp only;omega)
theorem Qh1(t:List UInt8):∀(f:Nat)(s:Cs),s.2.p≤(strL t f s).p
 | 0,s=>Nat.le_refl _
 | f+1,s=>by
  rw[strL];split
  ·exact Nat.le_refl _
  ·split
   ·exact Nat.le_refl _
   ·split
    ·exact Nat.le_trans (Nx.esc t s.2).p (Qh1 t f _)
    ·exact Nat.le_trans (Qeg t s.2) (Qh1 t f _)
theorem Qh2(t:List UInt8):∀(f:Nat)(s:Cs),(Qb4 t f s).1≠0→mu t s<f→mu t (Qb4 t f s).2<mu t s
 | 0,s,_,h=>absurd h (Nat.not_lt_zero _)
 | f+1,s,hk,h=>by
  rw[Qb4]at hk ⊢;simp only at hk ⊢;generalize hu:QaA t s=u at hk ⊢;have h1:mu t u≤mu t s:=by rw[←hu];exact Qhv t _ _
  have hr:rem t (QaJ u.2)=rem t u.2:=rfl;have hn:=Qbk t (QaJ u.2);by_cases hm1:u.1=-1
  ·rw[if_pos hm1]at hk;exact absurd rfl hk
  rw[if_neg hm1]at hk ⊢;have h2:mu t u=rem t u.2+1:=Qbc (c:=u.1) (σ:=u.2) hm1;by_cases hid:isId u.1 true=true
  ·rw[if_pos hid]
   have:=idL_mu t (t.length+2) (nxt t (QaJ u.2));show mu t (Qc3 t (QaJ u.2))<_;unfold Qc3;omega
  rw[if_neg hid]at hk ⊢;by_cases hnum:QaZ u.1=true
  ·rw[if_pos hnum]
   show mu t (QbN t (u.1,QaJ u.2))<_;unfold QbN;rw[show t.length+2=(t.length+1)+1 from rfl,numL,if_pos hnum];have:=Qh0 t (t.length+1) (nxt t (QaJ u.2));simp only;omega
  rw[if_neg hnum]at hk ⊢;by_cases h34:u.1=34
  ·rw[if_pos h34]
   show mu t (nxt t (QbC t (QaJ u.2)))<_;have h3:=Qbk t (QbC t (QaJ u.2));have h4:rem t (QbC t (QaJ u.2))≤rem t (QaJ u.2):=by
    unfold rem;have:(QaJ u.2).p≤(QbC t (QaJ u.2)).p:=Nat.le_trans (Qeg t _) (Qh1 t _ _);omega
   omega
  rw[if_neg h34]at hk ⊢;by_cases h47:u.1=47
  ·rw[if_pos h47]at hk ⊢
   by_cases hc:(nxt t (QaJ u.2)).1=47∨(nxt t (QaJ u.2)).1=42
   ·rw[if_pos hc]at hk ⊢
    have h5:=Qdy t hu h47 rfl hc;have h6:=Qh2 t f _ hk (Nat.lt_of_lt_of_le (Nat.lt_of_succ_lt h5) (Nat.le_of_lt_succ h));exact Nat.lt_trans h6 (Nat.lt_of_succ_lt h5)
   ·rw[if_neg hc]at hk ⊢
    have:=op_mu t 47 (nxt t (QaJ u.2));omega
  ·rw[if_neg h47]at hk ⊢
   have:=op_mu t u.1 (nxt t (QaJ u.2));omega
def MU(t:List UInt8)(σ:Sc):Nat:=mu t (QaG t σ)
theorem start_ge{t:List UInt8}{σ:Sc}(h:σ.ch=-2∨-1≤σ.ch):Ge (QaG t σ):=by
 unfold QaG;split
 ·exact Ge.nxt t _
 ·rename_i hn
  exact h.resolve_left hn
theorem QcV{t:List UInt8}{σ:Sc}(h:σ.ch=-2∨-1≤σ.ch):-1≤(Qa3 t σ).2.ch:=Qhz t _ _ (start_ge h)
theorem tok_ty{kind:Int}{t:List UInt8}{σ:Sc}(h:(Qdx t kind σ).ty≠0):kind≠0:=by
 rintro rfl;apply h;unfold Qdx;simp only;rw[if_neg (by simp)]
theorem Qgg{t:List UInt8}{σ:Sc}(h:σ.ch=-2∨-1≤σ.ch)(ht:(Qa3 t σ).1.ty≠0):MU t (Qa3 t σ).2<MU t σ:=by
 have h1:=Qh2 t (t.length+3) (QaG t σ) (tok_ty ht) (by have:=Qfd t (QaG t σ);omega);have h2:=QcV (t:=t) h;have h3:QaG t (Qa3 t σ).2=((Qa3 t σ).2.ch,{(Qa3 t σ).2 with ts:=none,pl:=0}):=by unfold QaG;rw[if_neg (by omega)]
 unfold MU;rw[h3];exact h1
theorem MU_le(t:List UInt8)(σ:Sc):MU t σ<t.length+2:=Qfd t _
section
variable (t:List UInt8)
def Qf4(σ:Sc):Tok:={ty:=0,fn:=⟨#[]⟩,off:=σ.po,ln:=σ.pl,col:=σ.pc,tx:=⟨#[]⟩}
def Qde:Nat→List Tok→Tok×Sc→Option (List Tok)
 | 0,_,_=>none
 | f+1,acc,p=>if p.2.er=true then none else if p.1.ty=0 then some (acc++[Qf4 p.2])else Qde f (acc++[p.1]) (Qa3 t p.2)
def toks:Option (List Tok):=Qde t (t.length+3) [] (Qa3 t σ0)
end
end Go.Proofs.Pg
