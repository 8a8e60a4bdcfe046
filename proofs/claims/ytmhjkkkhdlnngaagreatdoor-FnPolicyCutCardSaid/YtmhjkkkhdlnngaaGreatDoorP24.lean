/- FnPolicyCut, part 24. -/
import Derived.Test.YtmhjkkkhdlnngaaGreatDoorP23
set_option linter.all false
set_option maxRecDepth 100000
set_option maxHeartbeats 0
namespace Go.Proofs.Pg
open Go.RowKit Go.Proofs.Tryz
attribute [local go_sem] Oper.semAt_some
variable {t:List UInt8}{r:Rdr}{lo b:Nat}{σ:Sc}{w w':World}
def F0:Fd:={src:=.nilIface,buf:=fun _=>0,pos:=0,en:=0,off:=0,ln:=0,col:=0,lll:=0,lcl:=0,tp:=0,te:=0,ch:=0,er:=.nilIface,pf:=.string ⟨#[]⟩,po:=0,pl:=0,pc:=0}
theorem Qhy:Tryz.zeroCells249.toList=.nilIface::(List.replicate 1025 (.int .u8 0)++[.int .i64 0,.int .i64 0,.int .i64 0,.int .i64 0,.int .i64 0,.int .i64 0,.int .i64 0,.slice none 0 0,.int .i64 0,.int .i8 0,.int .i64 0,.int .i64 0,.int .i32 0,.nilIface,.string ⟨#[]⟩,.int .i64 0,.int .i64 0,.int .i64 0]):=by kernel_rfl
theorem Qff(i:Nat)(hi:i<1033∨1036≤i):Tryz.zeroCells249[i]? =RF F0 i:=by
 rw[←Array.getElem?_toList,Qhy];cases i with
 | zero=>rfl
 | succ i =>
  rw[List.getElem?_cons_succ];by_cases h:i<1025
  ·rw[List.getElem?_append_left (by rw[List.length_replicate];exact h),List.getElem?_replicate,if_pos h]
   unfold RF;rw[if_neg (by omega),if_pos (by omega)];rfl
  ·rw[List.getElem?_append_right (by rw[List.length_replicate];omega),List.length_replicate]
   by_cases h2:i<1043
   ·have hcases:i=1025∨i=1026∨i=1027∨i=1028∨i=1029∨i=1030∨i=1031∨i=1035∨i=1036∨i=1037∨i=1038∨i=1039∨i=1040∨i=1041∨i=1042:=by omega
    rcases hcases with rfl | rfl | rfl | rfl | rfl | rfl | rfl | rfl | rfl | rfl | rfl | rfl | rfl | rfl | rfl<;>rfl
   ·rw[List.getElem?_eq_none (by simp only[List.length_cons,List.length_nil];omega)]
    unfold RF;simp only[show ¬i+1=0 by omega,show ¬i+1≤1025 by omega,show ¬i+1=1026 by omega,show ¬i+1=1027 by omega,show ¬i+1=1028 by omega,show ¬i+1=1029 by omega,show ¬i+1=1030 by omega,show ¬i+1=1031 by omega,show ¬i+1=1032 by omega,show ¬i+1<1036 by omega,show ¬i+1=1036 by omega,show ¬i+1=1037 by omega,show ¬i+1=1038 by omega,show ¬i+1=1039 by omega,show ¬i+1=1040 by omega,show ¬i+1=1041 by omega,show ¬i+1=1042 by omega,show ¬i+1=1043 by omega,if_false]
theorem sn_zero(w:World)(lo:Nat)(h:lo≤w.heap.size):Sn (w.alloc (.cells Tryz.zeroCells249 249)) lo w.heap.size F0 []:=by
 refine LibA.zero_isBuffer h (lr:=0) ⟨Tryz.zeroCells249,Xa w _,?_,?_,?_,Qff⟩
 all_goals(rw[←Array.getElem?_toList,Qhy,List.getElem?_cons_succ,List.getElem?_append_right (by rw[List.length_replicate];decide),List.length_replicate];rfl)
def σ0:Sc:={p:=0,ln:=1,col:=0,lll:=0,lcl:=0,er:=false,ts:=none,ch:=-2,po:=0,pl:=0,pc:=0}
theorem init_c(h:Sn w lo b F0 [])(hR:r.R w t)(hT:Lib.Utf8Tabs 1 2 w)(hE:∃a,w.cell? ⟨0,0,none⟩=some (.iface 346 (.pointer (some a))))(hlo:lo≤w.heap.size)(h15:15≤lo)(hl:t.length≤1000000)(hL:RdLaw r lo) :
  Calls prog 87 #[.pointer (some ⟨b,0,none⟩),r.val] w fun e w'=>e=.returned (.pointer (some ⟨b,0,none⟩))∧SW t r lo b σ0 w'∧Ext (fun d=>d=b) w w':=by
 have hblt:=h.lt;have hblo:=h.hlo;have c0:=h.c_src;have c1:w.cell? ⟨b,1,none⟩=_:=h.bufAt 0 (by decide);have c2:=h.c_pos;have c3:=h.c_en;have c4:=h.c_off;have c5:=h.c_ln;have c6:=h.c_col;have c7:=h.c_lll;have c8:=h.c_lcl;have c9:=h.c_tp;have c10:=h.c_ch;have c11:=h.c_pl;have f0:=h.free 0;have f1:=h.free 1;have f2:=h.free 1026;have f3:=h.free 1027;have f4:=h.free 1028;have f5:=h.free 1029;have f6:=h.free 1030
 have f7:=h.free 1031;have f8:=h.free 1032;have f9:=h.free 1036;have f10:=h.free 1038;have f11:=h.free 1042;have H:=Hi h;have HR:=Hi hR;have HT:=Hi hT;have HE:=Hi hE;have HL:=Hi hL;clear h hR hT hE hL;go_enter func87,ntmps87
 go_wp2_with fail
 go_ret;have S1:=((((((((((((H.out.s_src r.val).s_buf 0 (by decide) 128).s_pos 0).s_en 0).s_off 0).s_ln 1).s_col 0).s_lll 0).s_lcl 0).s_tp (-1)).s_ch (-2)).s_pl 0);have E1:=((((((((((((Ext.refl (fun d=>d=b) w).setb 0 r.val).setb (1+0) (.int .u8 ((128:UInt8).toNat:Int))).setb 1026 (.int .i64 0)).setb 1027 (.int .i64 0)).setb 1028 (.int .i64 0)).setb 1029 (.int .i64 1)).setb 1030 (.int .i64 0)).setb 1031 (.int .i64 0)).setb 1032 (.int .i64 0)).setb 1036 (.int .i64 (-1))).setb 1038 (.int .i32 (-2))).setb 1042 (.int .i64 0)
 refine⟨rfl,⟨_,[],0,0,0,⟨S1,?_,?_,?_,?_,Xe hlo E1.size,h15,hl,HL.out,fun h=>by cases h⟩⟩,E1⟩
 ·exact{fsrc:=rfl,fpos:=rfl,fen:=rfl,foff:=rfl,le1:=Xb _,le2:=by decide,hp:=rfl,len:=Nat.zero_le _,buf:=(fun j hj=>absurd hj (Nat.not_lt_zero _)),sen:=rfl,fln:=rfl,fcol:=rfl,flll:=rfl,flcl:=rfl,lcle:=Xb _,er0:=(fun _=>rfl),er1:=(fun h=>by cases h),fch:=rfl,fpf:=rfl,fpo:=rfl,fpl:=rfl,fpc:=rfl,tok:=rfl}
 ·exact HL.out.keep _ _ _ HR.out (Qc8 E1 hblo)
 ·exact Qbg HT.out E1 (by omega) (by omega)
 ·obtain⟨a,ha⟩:=HE.out
  exact⟨a,E1.cell (p:=⟨0,0,none⟩) (show ¬(0=b)by omega) ha⟩
end Go.Proofs.Pg
