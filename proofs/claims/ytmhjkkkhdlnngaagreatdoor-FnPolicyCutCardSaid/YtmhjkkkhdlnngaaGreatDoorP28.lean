/- FnPolicyCut, part 28. -/
import Derived.Test.YtmhjkkkhdlnngaaGreatDoorP27
set_option linter.all false
set_option maxRecDepth 100000
set_option maxHeartbeats 0
namespace Go.Proofs.Pg
open Go.RowKit
theorem QjU{n m b0 b1 b2 b3 c1 c2 c3:Nat}(hm:1≤m)(hle:m≤n)(h1:1<m→c1=b1)(h2:2<m→c2=b2)(h3:3<m→c3=b3)(h:(Lib.decodeN n b0 b1 b2 b3).2≤m):Lib.decodeN m b0 c1 c2 c3=Lib.decodeN n b0 b1 b2 b3:=by
 by_cases k1:1<m
 ·have:=h1 k1;subst this
  by_cases k2:2<m
  ·have:=h2 k2;subst this
   by_cases k3:3<m
   ·have:=h3 k3;subst this
    unfold Lib.decodeN at *;simp only[show(1<n)=True from eq_true (by omega),show(2<n)=True from eq_true (by omega),show(3<n)=True from eq_true (by omega),show(1<m)=True from eq_true k1,show(2<m)=True from eq_true k2,show(3<m)=True from eq_true k3]
   ·unfold Lib.decodeN at *
    repeat' split at h
    all_goals(repeat' split)
    all_goals first | rfl | (exfalso;omega) | (exfalso;simp at h;omega)
  ·unfold Lib.decodeN at *
   repeat' split at h
   all_goals(repeat' split)
   all_goals first | rfl | (exfalso;omega) | (exfalso;simp at h;omega)
 ·unfold Lib.decodeN at *
  repeat' split at h
  all_goals(repeat' split)
  all_goals first | rfl | (exfalso;omega) | (exfalso;simp at h;omega)
theorem Qjp{l:List UInt8}{n j:Nat}(h:j<n):(l.take n).getD j 0=l.getD j 0:=by
 rw[List.getD_eq_getElem?_getD,List.getD_eq_getElem?_getD,List.getElem?_take,if_pos h]
theorem dec_take{l:List UInt8}{n:Nat}(h0:0<n)(hne:l≠[])(h:(dec l).2≤n):dec (l.take n)=dec l:=by
 by_cases hn:l.length≤n
 ·rw[List.take_of_length_le hn]
 have hl:(l.take n).length=n:=by rw[List.length_take];omega
 have hp:0<l.length:=List.length_pos_iff.2 hne;unfold dec at *;rw[hl,if_neg (by omega),if_neg (by omega),Qjp h0];rw[if_neg (by omega)]at h;exact QjU (by omega) (by omega) (fun k=>by rw[Qjp k]) (fun k=>by rw[Qjp k]) (fun k=>by rw[Qjp k]) h
def Bd(o:Nat)(s:Cs):Prop:=s.2.p≤o∨s.2.p=o+s.2.lcl
def Sp(t:List UInt8)(σ:Sc)(u:Cs):Prop:=∃σ':Sc,σ.p≤σ'.p∧u.1=(nxt t σ').1∧u.2.p=(nxt t σ').2.p∧u.2.lcl=(nxt t σ').2.lcl
def Rch(t:List UInt8)(s u:Cs):Prop:=(u.1=s.1∧u.2.p=s.2.p∧u.2.lcl=s.2.lcl)∨Sp t s.2 u
theorem Qj1(t:List UInt8)(σ:Sc):(nxt t σ).2.p=σ.p+(nxt t σ).2.lcl:=by
 unfold nxt
 repeat' split
 all_goals rfl
variable {t:List UInt8}{o:Nat}
theorem Sp.st{σ:Sc}{u:Cs}(h:Sp t σ u):σ.p+u.2.lcl≤u.2.p:=by
 obtain⟨σ',h1,_,h2,h3⟩:=h;rw[h2,h3,Qj1];omega
theorem Sp.nxt(t:List UInt8)(σ:Sc):Sp t σ (nxt t σ):=⟨σ,Xb _,rfl,rfl,rfl⟩
theorem Sp.mono{σ τ:Sc}{u:Cs}(h:Sp t σ u)(k:τ.p≤σ.p):Sp t τ u:=by
 obtain⟨σ',h1,h2⟩:=h;exact⟨σ',Xe k h1,h2⟩
theorem Sp.trans{σ:Sc}{s u:Cs}(h:Sp t σ s)(k:Sp t s.2 u):Sp t σ u:=k.mono (by have:=h.st;omega)
theorem Rch.refl(s:Cs):Rch t s s:=.inl ⟨rfl,rfl,rfl⟩
theorem Sp.rch{σ:Sc}{s u:Cs}(h:Sp t σ s)(k:Rch t s u):Sp t σ u:=by
 rcases k with⟨k1,k2,k3⟩ | k
 ·obtain⟨σ',h1,h2,h3,h4⟩:=h
  exact⟨σ',h1,k1.trans h2,k2.trans h3,k3.trans h4⟩
 ·exact h.trans k
theorem Rch.trans{s u v:Cs}(h:Rch t s u)(k:Rch t u v):Rch t s v:=by
 rcases h with⟨h1,h2,h3⟩ | h
 ·rcases k with⟨k1,k2,k3⟩ | k
  ·exact .inl ⟨k1.trans h1,k2.trans h2,k3.trans h3⟩
  ·exact .inr (k.mono (by omega))
 ·exact .inr (h.rch k)
theorem Rch.err{s u:Cs}(h:Rch t s u):Rch t s (err u):=h
theorem Sp.err{σ:Sc}{u:Cs}(h:Sp t σ u):Sp t σ (err u):=h
theorem Bd.sp{σ:Sc}{u:Cs}(h:Bd o u)(k:Sp t σ u):σ.p≤o:=by
 have:=k.st;rcases h with h | h<;>omega
theorem Bd.rch{s u:Cs}(h:Bd o u)(k:Rch t s u):Bd o s:=by
 rcases k with⟨_,k1,k2⟩ | k
 ·unfold Bd at *;rw[←k1,←k2];exact h
 ·exact .inl (h.sp k)
def Sim(o:Nat)(s s':Cs):Prop:=(s.2.p≤o∧s'=s)∨(o<s.2.p∧s.2.p=o+s.2.lcl∧0≤s.1∧s'.1=-1∧s'.2.p=o∧s'.2.lcl=0∧s'.2.ts=s.2.ts)
theorem Sim.err{s s':Cs}(h:Sim o s s'):Sim o (err s) (err s'):=by
 rcases h with⟨h,rfl⟩ | h
 ·exact .inl ⟨h,rfl⟩
 ·exact .inr h
theorem Qjd(ho:o≤t.length){σ:Sc}(h:Bd o (nxt t σ)):Sim o (nxt t σ) (nxt (t.take o) σ):=by
 have hp:σ.p≤o:=h.sp (Sp.nxt t σ);have hl:(t.take o).length=o:=by rw[List.length_take];omega
 by_cases he:σ.p=o
 ·have e1:nxt (t.take o) σ=(-1,{σ with col:=if 0<σ.lcl then wrap64 (σ.col+1)else σ.col,lcl:=0}):=by
   unfold nxt;rw[if_pos (by omega)]
  by_cases ht:t.length≤σ.p
  ·have e2:nxt t σ=(-1,{σ with col:=if 0<σ.lcl then wrap64 (σ.col+1)else σ.col,lcl:=0}):=by
    unfold nxt;rw[if_pos ht]
   exact .inl ⟨by rw[e2];exact hp,by rw[e1,e2]⟩
  ·right
   have h1:=nxt_p (t:=t) (σ:=σ) (by omega);have h2:=Qj1 t σ;have h3:0≤(nxt t σ).1:=by
    unfold nxt;rw[if_neg ht]
    repeat' split
    all_goals(simp only;omega)
   have h4:(nxt t σ).2.ts=σ.ts:=(Kp.nxt t σ).1;rw[e1];exact⟨by omega,by omega,h3,rfl,he,rfl,h4.symm⟩
 ·have hne:t.drop σ.p≠[]:=by intro e;have:=congrArg List.length e;rw[List.length_drop]at this;simp at this;omega
  have hw:=Qco hne;have hpp:=Qj1 t σ;have hlc:(nxt t σ).2.lcl=(dec (t.drop σ.p)).2:=by
   unfold nxt;rw[if_neg (by omega)]
   repeat' split
   all_goals first | rfl | (rename_i hx;exact hx.2.symm)
  have hd:dec ((t.take o).drop σ.p)=dec (t.drop σ.p):=by
   rw[List.drop_take];refine dec_take (by omega) hne ?_;rcases h with h | h<;>omega
  have e:nxt (t.take o) σ=nxt t σ:=by
   unfold nxt;rw[if_neg (show ¬(t.take o).length≤σ.p by omega),if_neg (show ¬t.length≤σ.p by omega),hd]
  rw[e];refine .inl ⟨?_,rfl⟩;rcases h with h | h<;>omega
theorem Sim.stuck{s u:Cs}(h:o<s.2.p)(k:Sp t s.2 u)(hb:Bd o u):False:=by
 have:=hb.sp k;omega
def lp(t:List UInt8)(T:Int→Bool):Nat→Cs→Cs
 | 0,s=>s
 | f+1,s=>if T s.1=true then lp t T f (nxt t s.2)else s
theorem id_lp:∀(f:Nat)(s:Cs),idL t f s=lp t (fun c=>isId c false) f s
 | 0,s=>rfl
 | f+1,s=>by rw[idL,lp,id_lp f]
theorem Qku:∀(f:Nat)(s:Cs),numL t f s=lp t QaZ f s
 | 0,s=>rfl
 | f+1,s=>by rw[numL,lp,Qku f]
theorem ws_lp:∀(f:Nat)(s:Cs),wsL t f s=lp t isWs f s
 | 0,s=>rfl
 | f+1,s=>by rw[wsL,lp,ws_lp f]
theorem QjA:∀(f:Nat)(s:Cs),lineL t f s=lp t (fun c=>decide (c≠10∧0≤c)) f s
 | 0,s=>rfl
 | f+1,s=>by
  rw[lineL,lp,QjA f];by_cases h:s.1≠10∧0≤s.1
  ·rw[if_pos h,if_pos (by simpa using h)]
  ·rw[if_neg h,if_neg (by simpa using h)]
theorem Qjq(T:Int→Bool):∀(f:Nat)(s:Cs),Rch t s (lp t T f s)
 | 0,s=>Rch.refl s
 | f+1,s=>by
  rw[lp];split
  ·exact .inr ((Sp.nxt t s.2).rch (Qjq T f _))
  ·exact Rch.refl s
theorem QjJ(ho:o≤t.length){T:Int→Bool}(hT:T (-1)=false):∀(f f':Nat)(s s':Cs),mu t s<f→mu (t.take o) s'<f'→Sim o s s'→Bd o (lp t T f s)→Sim o (lp t T f s) (lp (t.take o) T f' s')
 | 0,_,_,_,h,_,_,_=>absurd h (Nat.not_lt_zero _)
 | _,0,_,_,_,h,_,_=>absurd h (Nat.not_lt_zero _)
 | f+1,f'+1,s,s',hf,hf',hS,hb=>by
  rw[lp]at hb ⊢;rw[lp];rcases hS with⟨hp,rfl⟩ | hS
  ·by_cases hc:T s'.1=true
   ·rw[if_pos hc]at hb ⊢
    rw[if_pos hc];have hn:s'.1≠-1:=by intro e;rw[e,hT]at hc;cases hc
    have m1:=Qbk t s'.2;have m2:=Qbk (t.take o) s'.2;have m3:mu t s'=rem t s'.2+1:=Qbc (c:=s'.1) (σ:=s'.2) hn;have m4:mu (t.take o) s'=rem (t.take o) s'.2+1:=Qbc (c:=s'.1) (σ:=s'.2) hn;exact QjJ ho hT f f' _ _ (by omega) (by omega) (Qjd ho (hb.rch (Qjq T f _))) hb
   ·rw[if_neg hc,if_neg hc]
    exact .inl ⟨hp,rfl⟩
  ·by_cases hc:T s.1=true
   ·rw[if_pos hc]at hb
    exact(Sim.stuck hS.1 ((Sp.nxt t s.2).rch (Qjq T f _)) hb).elim
   ·rw[if_neg hc,if_neg (by rw[hS.2.2.2.1,hT];decide)]
    exact .inr hS
theorem Qjr:∀(f n:Nat)(s:Cs),Rch t s (hexL t f n s).2
 | 0,n,s=>Rch.refl s
 | f+1,n,s=>by
  rw[hexL];split
  ·exact .inr ((Sp.nxt t s.2).rch (Qjr f _ _))
  ·exact Rch.refl s
theorem Qkb(ho:o≤t.length):∀(f n:Nat)(s s':Cs),Sim o s s'→Bd o (hexL t f n s).2→(hexL (t.take o) f n s').1=(hexL t f n s).1∧Sim o (hexL t f n s).2 (hexL (t.take o) f n s').2
 | 0,n,s,s',hS,hb=>⟨rfl,hS⟩
 | f+1,n,s,s',hS,hb=>by
  rw[hexL]at hb ⊢;rw[hexL];rcases hS with⟨hp,rfl⟩ | hS
  ·by_cases hc:Qc1 s'.1=true
   ·rw[if_pos hc]at hb ⊢
    rw[if_pos hc];exact Qkb ho f _ _ _ (Qjd ho (hb.rch (Qjr f _ _))) hb
   ·rw[if_neg hc,if_neg hc]
    exact⟨rfl,.inl ⟨hp,rfl⟩⟩
  ·by_cases hc:Qc1 s.1=true
   ·rw[if_pos hc]at hb
    exact(Sim.stuck hS.1 ((Sp.nxt t s.2).rch (Qjr f _ _)) hb).elim
   ·rw[if_neg hc,if_neg (by rw[hS.2.2.2.1];decide)]
    exact⟨rfl,.inr hS⟩
theorem Qjg(mn mx:Nat)(s:Cs):Rch t s (Qbj t mn mx s):=by
 unfold Qbj;simp only;split
 ·exact(Qjr mx 0 s).err
 ·exact Qjr mx 0 s
theorem Qkv(ho:o≤t.length)(mn mx:Nat){s s':Cs}(hS:Sim o s s')(hb:Bd o (Qbj t mn mx s)):Sim o (Qbj t mn mx s) (Qbj (t.take o) mn mx s'):=by
 have hb2:Bd o (hexL t mx 0 s).2:=by
  unfold Qbj at hb;simp only at hb;split at hb
  ·exact hb
  ·exact hb
 have h:=Qkb ho mx 0 s s' hS hb2;unfold Qbj;simp only;rw[h.1];split
 ·exact h.2.err
 ·exact h.2
theorem esc_sim(ho:o≤t.length){σ:Sc}(hb:Bd o (Qbn t σ)):Sim o (Qbn t σ) (Qbn (t.take o) σ):=by
 unfold Qbn at hb ⊢;simp only at hb ⊢;have hb1:Bd o (nxt t σ):=by
  revert hb;split
  ·exact fun hb=>hb.rch (.inr (Sp.nxt t _))
  ·split
   ·exact fun hb=>hb.rch (.inr ((Sp.nxt t _).rch (Qjg 2 2 _)))
   ·split
    ·split
     ·split
      ·exact fun hb=>hb.rch (.inr ((((Sp.nxt t _).trans (Sp.nxt t _)).rch (Qjg 1 6 _)).trans (Sp.nxt t _)))
      ·exact fun hb=>hb.rch (.inr (((Sp.nxt t _).trans (Sp.nxt t _)).rch (Qjg 1 6 _)).err)
     ·exact fun hb=>hb.rch (.inr (Sp.nxt t _).err)
    ·exact fun hb=>hb
 have h1:=Qjd ho hb1;generalize nxt t σ=s at *;generalize nxt (t.take o) σ=s' at *;rcases h1 with⟨hp,rfl⟩ | hS
 ·split at hb
  ·rename_i c1
   rw[if_pos c1,if_pos c1];exact Qjd ho hb
  ·rename_i c1
   rw[if_neg c1,if_neg c1];split at hb
   ·rename_i c2
    rw[if_pos c2,if_pos c2];exact Qkv ho 2 2 (Qjd ho (hb.rch (Qjg 2 2 _))) hb
   ·rename_i c2
    rw[if_neg c2,if_neg c2];split at hb
    ·rename_i c3
     rw[if_pos c3,if_pos c3];have hb2:Bd o (nxt t s'.2):=by
      revert hb;split
      ·split
       ·exact fun hb=>hb.rch (.inr (((Sp.nxt t _).rch (Qjg 1 6 _)).trans (Sp.nxt t _)))
       ·exact fun hb=>hb.rch (.inr ((Sp.nxt t _).rch (Qjg 1 6 _)).err)
      ·exact fun hb=>hb
     have h2:=Qjd ho hb2;generalize nxt t s'.2=u at *;generalize nxt (t.take o) s'.2=u' at *;rcases h2 with⟨hp2,rfl⟩ | hS2
     ·split at hb
      ·rename_i c4
       rw[if_pos c4,if_pos c4];have hb3:Bd o (Qbj t 1 6 (nxt t u'.2)):=by
        revert hb;split
        ·exact fun hb=>hb.rch (.inr (Sp.nxt t _))
        ·exact fun hb=>hb
       have h3:=Qkv ho 1 6 (Qjd ho (hb3.rch (Qjg 1 6 _))) hb3;generalize Qbj t 1 6 (nxt t u'.2)=v at *;generalize Qbj (t.take o) 1 6 (nxt (t.take o) u'.2)=v' at *;rcases h3 with⟨hp3,rfl⟩ | hS3
       ·split at hb
        ·rename_i c5
         rw[if_pos c5,if_pos c5];exact Qjd ho hb
        ·rename_i c5
         rw[if_neg c5,if_neg c5];exact Sim.err (.inl ⟨hp3,rfl⟩)
       ·split at hb
        ·exact(Sim.stuck hS3.1 (Sp.nxt t _) hb).elim
        ·rename_i c5
         rw[if_neg c5,if_neg (by rw[hS3.2.2.2.1];decide)];exact Sim.err (.inr hS3)
      ·rename_i c4
       rw[if_neg c4,if_neg c4];exact Sim.err (.inl ⟨hp2,rfl⟩)
     ·split at hb
      ·exfalso
       revert hb;split
       ·exact fun hb=>Sim.stuck hS2.1 (((Sp.nxt t _).rch (Qjg 1 6 _)).trans (Sp.nxt t _)) hb
       ·exact fun hb=>Sim.stuck hS2.1 ((Sp.nxt t _).rch (Qjg 1 6 _)).err hb
      ·rename_i c4
       rw[if_neg c4,if_neg (by rw[hS2.2.2.2.1];decide)];exact Sim.err (.inr hS2)
    ·rename_i c3
     rw[if_neg c3,if_neg c3];exact Sim.err (.inl ⟨hp,rfl⟩)
 ·rw[if_neg (show ¬QbB s'.1=true by rw[hS.2.2.2.1];decide),if_neg (show ¬s'.1=120 by rw[hS.2.2.2.1];decide),if_neg (show ¬s'.1=117 by rw[hS.2.2.2.1];decide)]
  split at hb
  ·exact(Sim.stuck hS.1 (Sp.nxt t _) hb).elim
  ·rename_i c1
   rw[if_neg c1];split at hb
   ·exact(Sim.stuck hS.1 ((Sp.nxt t _).rch (Qjg 2 2 _)) hb).elim
   ·rename_i c2
    rw[if_neg c2];split at hb
    ·exfalso
     revert hb;split
     ·split
      ·exact fun hb=>Sim.stuck hS.1 ((((Sp.nxt t _).trans (Sp.nxt t _)).rch (Qjg 1 6 _)).trans (Sp.nxt t _)) hb
      ·exact fun hb=>Sim.stuck hS.1 (((Sp.nxt t _).trans (Sp.nxt t _)).rch (Qjg 1 6 _)).err hb
     ·exact fun hb=>Sim.stuck hS.1 (Sp.nxt t _).err hb
    ·rename_i c3
     rw[if_neg c3];exact Sim.err (.inr hS)
variable {t:List UInt8}{o:Nat}
theorem QjB(ho:o≤t.length):∀(f f':Nat)(s s':Cs),mu t s<f→mu (t.take o) s'<f'→Sim o s s'→(strL t f s).p≤o→strL (t.take o) f' s'=strL t f s
 | 0,_,_,_,h,_,_,_=>absurd h (Nat.not_lt_zero _)
 | _,0,_,_,_,h,_,_=>absurd h (Nat.not_lt_zero _)
 | f+1,f'+1,s,s',hf,hf',hS,hb=>by
  rcases hS with⟨hp,rfl⟩ | hS
  ·rw[strL]at hb ⊢
   rw[strL];by_cases c1:s'.1=34
   ·rw[if_pos c1,if_pos c1]
   rw[if_neg c1]at hb ⊢;rw[if_neg c1];by_cases c2:s'.1=10∨s'.1<0
   ·rw[if_pos c2,if_pos c2]
   rw[if_neg c2]at hb ⊢;rw[if_neg c2];have hn:s'.1≠-1:=by omega
   have m3:mu t s'=rem t s'.2+1:=Qbc (c:=s'.1) (σ:=s'.2) hn;have m4:mu (t.take o) s'=rem (t.take o) s'.2+1:=Qbc (c:=s'.1) (σ:=s'.2) hn;by_cases c3:s'.1=92
   ·rw[if_pos c3]at hb ⊢
    rw[if_pos c3];have m1:=(Nx.esc t s'.2).mu;have m2:=(Nx.esc (t.take o) s'.2).mu;exact QjB ho f f' _ _ (by omega) (by omega) (esc_sim ho (.inl (Xe (Qh1 t f _) hb))) hb
   ·rw[if_neg c3]at hb ⊢
    rw[if_neg c3];have m1:=Qbk t s'.2;have m2:=Qbk (t.take o) s'.2;exact QjB ho f f' _ _ (by omega) (by omega) (Qjd ho (.inl (Xe (Qh1 t f _) hb))) hb
  ·have:=Qh1 t (f+1) s
   have:=hS.1;omega
theorem Qkw(σ:Sc):σ.p≤(QbC t σ).p:=Xe (Qeg t σ) (Qh1 t _ _)
theorem QjV(ho:o≤t.length){σ:Sc}(h:(QbC t σ).p≤o):QbC (t.take o) σ=QbC t σ :=
 QjB ho _ _ _ _ (Qfd _ _) (Qfd _ _) (Qjd ho (.inl (Xe (Qh1 t _ _) h))) h
theorem Qjs:∀(f:Nat)(s:Cs),Rch t s (comL t f s)
 | 0,s=>Rch.refl s
 | f+1,s=>by
  rw[comL];simp only;split
  ·exact(Rch.refl s).err
  ·split
   ·exact .inr ((Sp.nxt t _).trans (Sp.nxt t _))
   ·exact .inr ((Sp.nxt t _).rch (Qjs f _))
theorem Qkc(ho:o≤t.length):∀(f f':Nat)(s s':Cs),mu t s<f→mu (t.take o) s'<f'→Sim o s s'→Bd o (comL t f s)→Sim o (comL t f s) (comL (t.take o) f' s')
 | 0,_,_,_,h,_,_,_=>absurd h (Nat.not_lt_zero _)
 | _,0,_,_,_,h,_,_=>absurd h (Nat.not_lt_zero _)
 | f+1,f'+1,s,s',hf,hf',hS,hb=>by
  rw[comL]at hb ⊢;rw[comL];simp only at hb ⊢;rcases hS with⟨hp,rfl⟩ | hS
  ·by_cases c1:s'.1<0
   ·rw[if_pos c1,if_pos c1]
    exact Sim.err (.inl ⟨hp,rfl⟩)
   rw[if_neg c1]at hb ⊢;rw[if_neg c1];have hn:s'.1≠-1:=by omega
   have m1:=Qbk t s'.2;have m2:=Qbk (t.take o) s'.2;have m3:mu t s'=rem t s'.2+1:=Qbc (c:=s'.1) (σ:=s'.2) hn;have m4:mu (t.take o) s'=rem (t.take o) s'.2+1:=Qbc (c:=s'.1) (σ:=s'.2) hn;have hb1:Bd o (nxt t s'.2):=by
    revert hb;split
    ·exact fun hb=>hb.rch (.inr (Sp.nxt t _))
    ·exact fun hb=>hb.rch (Qjs f _)
   have h1:=Qjd ho hb1;generalize nxt t s'.2=u at *;generalize nxt (t.take o) s'.2=u' at *;by_cases c2:s'.1=42∧u.1=47
   ·rw[if_pos c2]at hb ⊢
    rcases h1 with⟨hp2,rfl⟩ | h1
    ·rw[if_pos c2]
     exact Qjd ho hb
    ·exact(Sim.stuck h1.1 (Sp.nxt t _) hb).elim
   ·rw[if_neg c2]at hb ⊢
    have c3:¬(s'.1=42∧u'.1=47):=by
     rcases h1 with⟨hp2,rfl⟩ | h1
     ·exact c2
     ·rw[h1.2.2.2.1];omega
    rw[if_neg c3];exact Qkc ho f f' _ _ (by omega) (by omega) h1 hb
  ·rw[if_pos (show s'.1<0 by rw[hS.2.2.2.1];decide)]
   by_cases c1:s.1<0
   ·rw[if_pos c1]
    exact Sim.err (.inr hS)
   ·rw[if_neg c1]at hb
    exfalso;revert hb;split
    ·exact fun hb=>Sim.stuck hS.1 ((Sp.nxt t _).trans (Sp.nxt t _)) hb
    ·exact fun hb=>Sim.stuck hS.1 ((Sp.nxt t _).rch (Qjs f _)) hb
theorem com_sp(s:Cs):Sp t s.2 (QaT t s):=by
 unfold QaT;split
 ·rw[QjA];exact(Sp.nxt t _).rch (Qjq _ _ _)
 ·exact(Sp.nxt t _).rch (Qjs _ _)
theorem Qkx(ho:o≤t.length){s:Cs}(hb:Bd o (QaT t s)):Sim o (QaT t s) (QaT (t.take o) s):=by
 unfold QaT at hb ⊢;split at hb
 ·rename_i c
  rw[if_pos c,if_pos c];rw[QjA]at hb ⊢;rw[QjA];exact QjJ ho (by decide) _ _ _ _ (Qfd _ _) (Qfd _ _) (Qjd ho (hb.rch (Qjq _ _ _))) hb
 ·rename_i c
  rw[if_neg c,if_neg c];exact Qkc ho _ _ _ _ (Qfd _ _) (Qfd _ _) (Qjd ho (hb.rch (Qjs _ _))) hb
theorem Qkd(c0:Int)(s:Cs):Rch t s (Qbo t c0 s).2:=by
 unfold Qbo
 repeat' split
 all_goals first | exact Rch.refl s | exact .inr (Sp.nxt t _)
theorem op_sim(ho:o≤t.length){c0:Int}{s s':Cs}(hS:Sim o s s')(hb:Bd o (Qbo t c0 s).2):(Qbo (t.take o) c0 s').1=(Qbo t c0 s).1∧Sim o (Qbo t c0 s).2 (Qbo (t.take o) c0 s').2:=by
 unfold Qbo at hb ⊢;by_cases c1:Qee c0=true
 ·rw[if_pos c1,if_pos c1]
  exact⟨rfl,hS⟩
 rw[if_neg c1]at hb;rw[if_neg c1,if_neg c1];by_cases c2:c0=58
 ·rw[if_pos c2]at hb
  rw[if_pos c2,if_pos c2];refine⟨rfl,?_⟩;rcases hS with⟨hp,rfl⟩ | hS
  ·by_cases c3:s'.1=58
   ·simp only[c3,if_true]at hb ⊢
    exact Qjd ho hb
   ·simp only[c3,if_false]at hb ⊢
    exact .inl ⟨hp,rfl⟩
  ·by_cases c3:s.1=58
   ·simp only[c3,if_true]at hb
    exact(Sim.stuck hS.1 (Sp.nxt t _) hb).elim
   ·simp only[if_neg c3,if_neg (show ¬s'.1=58 by rw[hS.2.2.2.1];decide)]
    exact .inr hS
 rw[if_neg c2]at hb;rw[if_neg c2,if_neg c2];by_cases c4:c0=33∨c0=60∨c0=62
 ·rw[if_pos c4]at hb
  rw[if_pos c4,if_pos c4];refine⟨rfl,?_⟩;rcases hS with⟨hp,rfl⟩ | hS
  ·by_cases c3:s'.1=61
   ·simp only[c3,if_true]at hb ⊢
    exact Qjd ho hb
   ·simp only[c3,if_false]at hb ⊢
    exact .inl ⟨hp,rfl⟩
  ·by_cases c3:s.1=61
   ·simp only[c3,if_true]at hb
    exact(Sim.stuck hS.1 (Sp.nxt t _) hb).elim
   ·simp only[if_neg c3,if_neg (show ¬s'.1=61 by rw[hS.2.2.2.1];decide)]
    exact .inr hS
 rw[if_neg c4]at hb;rw[if_neg c4,if_neg c4];by_cases c5:c0=61∨c0=124∨c0=38
 ·rw[if_pos c5]at hb
  rw[if_pos c5,if_pos c5];rcases hS with⟨hp,rfl⟩ | hS
  ·by_cases c3:s'.1=c0
   ·rw[if_pos c3]at hb
    rw[if_pos c3,if_pos c3];exact⟨rfl,Qjd ho hb⟩
   ·rw[if_neg c3,if_neg c3]
    exact⟨rfl,.inl ⟨hp,rfl⟩⟩
  ·by_cases c3:s.1=c0
   ·rw[if_pos c3]at hb
    exact(Sim.stuck hS.1 (Sp.nxt t _) hb).elim
   ·rw[if_neg c3,if_neg (show ¬s'.1=c0 by rw[hS.2.2.2.1];omega)]
    exact⟨rfl,.inr hS⟩
 rw[if_neg c5,if_neg c5];exact⟨rfl,hS⟩
def Qjh(t:List UInt8):Nat→Cs→Cs
 | 0,s=>s
 | f+1,s=>if(QaA t s).1=47∧((nxt t (QaJ (QaA t s).2)).1=47∨(nxt t (QaJ (QaA t s).2)).1=42)then Qjh t f (QaT t ((nxt t (QaJ (QaA t s).2)).1,{(nxt t (QaJ (QaA t s).2)).2 with ts:=none}))else QaA t s
theorem Qky(s:Cs):Rch t s (QaA t s):=by unfold QaA;rw[ws_lp];exact Qjq _ _ _
theorem Qkz(σ:Sc):Sp t σ (Qc3 t σ):=by unfold Qc3;rw[id_lp];exact(Sp.nxt t σ).rch (Qjq _ _ _)
theorem Qkm{s:Cs}(h:QaZ s.1=true):Sp t s.2 (QbN t s):=by
 unfold QbN;rw[Qku,lp,if_pos h];exact(Sp.nxt t _).rch (Qjq _ _ _)
theorem str_sp(σ:Sc):Sp t σ (nxt t (QbC t σ)):=(Sp.nxt t _).mono (Qkw σ)
theorem Qjl{v:Cs}:Sp t v.2 (QaT t (v.1,{v.2 with ts:=none})):=com_sp (v.1,{v.2 with ts:=none})
theorem QjC:∀(f:Nat)(s:Cs),Rch t s (Qb4 t f s).2∧(f≠0→(QaA t s).1≠-1→Sp t (QaA t s).2 (Qb4 t f s).2)
 | 0,s=>⟨Rch.refl s,fun h=>absurd rfl h⟩
 | f+1,s=>by
  have hw:=Qky (t:=t) s;have key:(QaA t s).1≠-1→Sp t (QaA t s).2 (Qb4 t (f+1) s).2:=by
   intro hn;rw[Qb4];simp only;rw[if_neg hn];split
   ·exact Qkz (QaJ (QaA t s).2)
   ·split
    ·rename_i hc
     exact Qkm (s:=((QaA t s).1,QaJ (QaA t s).2)) hc
    ·split
     ·exact str_sp (QaJ (QaA t s).2)
     ·split
      ·split
       ·have h1:Sp t (QaA t s).2 (nxt t (QaJ (QaA t s).2)):=Sp.nxt t (QaJ (QaA t s).2)
        exact(h1.trans Qjl).rch (QjC f _).1
       ·exact(Sp.nxt t (QaJ (QaA t s).2):Sp t (QaA t s).2 _).rch (Qkd _ _)
      ·exact(Sp.nxt t (QaJ (QaA t s).2):Sp t (QaA t s).2 _).rch (Qkd _ _)
  refine⟨?_,fun _=>key⟩;by_cases hn:(QaA t s).1=-1
  ·rw[Qb4]
   simp only;rw[if_pos hn];exact hw
  ·exact hw.trans (.inr (key hn))
theorem Qjk(f:Nat)(s:Cs):Rch t s (Qb4 t f s).2:=(QjC f s).1
theorem Qk0(f:Nat)(s:Cs):Rch t (QaA t s) (Qb4 t (f+1) s).2:=by
 by_cases hn:(QaA t s).1=-1
 ·rw[Qb4]
  simp only;rw[if_pos hn];exact Rch.refl (QaA t s)
 ·exact .inr ((QjC (f+1) s).2 (by simp) hn)
theorem ws_sim(ho:o≤t.length){s s':Cs}(hS:Sim o s s')(hb:Bd o (QaA t s)):Sim o (QaA t s) (QaA (t.take o) s'):=by
 unfold QaA at *;rw[ws_lp]at hb ⊢;rw[ws_lp];exact QjJ ho (by decide) _ _ _ _ (Qfd _ _) (Qfd _ _) hS hb
theorem Qke(ho:o≤t.length):∀(f f':Nat)(s s':Cs),mu t s<f→mu (t.take o) s'<f'→Sim o s s'→Bd o (Qb4 t f s).2→(Qb4 (t.take o) f' s').1=(Qb4 t f s).1∧Sim o (Qb4 t f s).2 (Qb4 (t.take o) f' s').2
 | 0,_,_,_,h,_,_,_=>absurd h (Nat.not_lt_zero _)
 | _,0,_,_,_,h,_,_=>absurd h (Nat.not_lt_zero _)
 | f+1,f'+1,s,s',hf,hf',hS,hb=>by
  have hub:Bd o (QaA t s):=hb.rch (Qk0 f s);have hu:=ws_sim ho hS hub;have hgo:=(QjC (t:=t) (f+1) s).2 (by simp);have hst:=fun v h=>Qdy t (s:=s) (u:=QaA t s) (v:=v) rfl h
  have hst':=fun v h=>Qdy (t.take o) (s:=s') (u:=QaA (t.take o) s') (v:=v) rfl h
  rw[Qb4]at hb hgo ⊢;rw[Qb4];simp only at hb hgo ⊢;generalize QaA t s=u at *;generalize QaA (t.take o) s'=u' at *;rcases hu with⟨hp,rfl⟩ | hu
  ·by_cases c1:u'.1=-1
   ·rw[if_pos c1,if_pos c1]
    exact⟨rfl,.inl ⟨hp,rfl⟩⟩
   rw[if_neg c1]at hb;rw[if_neg c1,if_neg c1];by_cases c2:isId u'.1 true=true
   ·rw[if_pos c2]at hb
    rw[if_pos c2,if_pos c2];refine⟨rfl,?_⟩;simp only[Qc3,id_lp]at hb ⊢;exact QjJ ho (by decide) _ _ _ _ (Qfd _ _) (Qfd _ _) (Qjd ho (hb.rch (Qjq _ _ _))) hb
   rw[if_neg c2]at hb;rw[if_neg c2,if_neg c2];by_cases c3:QaZ u'.1=true
   ·rw[if_pos c3]at hb
    rw[if_pos c3,if_pos c3];refine⟨rfl,?_⟩;simp only[QbN,Qku]at hb ⊢;exact QjJ ho (by decide) _ _ _ _ (Qfd _ _) (Qfd _ _) (.inl ⟨hp,rfl⟩) hb
   rw[if_neg c3]at hb;rw[if_neg c3,if_neg c3];by_cases c4:u'.1=34
   ·rw[if_pos c4]at hb
    rw[if_pos c4,if_pos c4];refine⟨rfl,?_⟩;rw[QjV ho (hb.sp (Sp.nxt t _))];exact Qjd ho hb
   rw[if_neg c4]at hb;rw[if_neg c4,if_neg c4];by_cases c5:u'.1=47
   ·rw[if_pos c5]at hb
    rw[if_pos c5,if_pos c5];have hbv:Bd o (nxt t (QaJ u'.2)):=by
     revert hb;split
     ·exact fun hb=>hb.rch (.inr (Qjl.rch (Qjk f _)))
     ·exact fun hb=>hb.rch (Qkd _ _)
    have hv:=Qjd ho hbv;have hst2:=hst _ c5 rfl;have hst2':=hst' _ c5 rfl;generalize nxt t (QaJ u'.2)=v at *;generalize nxt (t.take o) (QaJ u'.2)=v' at *;by_cases c6:v.1=47∨v.1=42
    ·rw[if_pos c6]at hb
     rw[if_pos c6];rcases hv with⟨hp2,rfl⟩ | hv
     ·rw[if_pos c6]
      have h1:=hst2 c6;have h2:=hst2' c6;exact Qke ho f f' _ _ (Nat.lt_of_lt_of_le (Nat.lt_of_succ_lt h1) (Nat.le_of_lt_succ hf)) (Nat.lt_of_lt_of_le (Nat.lt_of_succ_lt h2) (Nat.le_of_lt_succ hf')) (Qkx ho (hb.rch (Qjk f _))) hb
     ·exact(Sim.stuck hv.1 (Qjl.rch (Qjk f _)) hb).elim
    ·rw[if_neg c6]at hb
     rw[if_neg c6];have c7:¬(v'.1=47∨v'.1=42):=by
      rcases hv with⟨hp2,rfl⟩ | hv
      ·exact c6
      ·rw[hv.2.2.2.1];omega
     rw[if_neg c7];exact op_sim ho hv hb
   ·rw[if_neg c5]at hb
    rw[if_neg c5,if_neg c5];exact op_sim ho (Qjd ho (hb.rch (Qkd _ _))) hb
  ·exact(Sim.stuck hu.1 (hgo (by have:=hu.2.2.1;omega)) hb).elim
theorem Qjf:∀(f:Nat)(s:Cs),Rch t s (Qjh t f s)∧(f≠0→Rch t (QaA t s) (Qjh t f s))
 | 0,s=>⟨Rch.refl s,fun h=>absurd rfl h⟩
 | f+1,s=>by
  have key:Rch t (QaA t s) (Qjh t (f+1) s):=by
   rw[Qjh];split
   ·have h1:Sp t (QaA t s).2 (nxt t (QaJ (QaA t s).2)):=Sp.nxt t (QaJ (QaA t s).2)
    exact .inr ((h1.trans Qjl).rch (Qjf f _).1)
   ·exact Rch.refl _
  exact⟨(Qky s).trans key,fun _=>key⟩
def Nz(t:List UInt8)(s:Cs):Prop:=∃σ':Sc,s.1=(nxt t σ').1∧s.2.p=(nxt t σ').2.p∧s.2.lcl=(nxt t σ').2.lcl
theorem Nz.rch{s u:Cs}(h:Nz t s)(k:Rch t s u):Nz t u:=by
 rcases k with⟨k1,k2,k3⟩ | ⟨σ',_,k⟩
 ·obtain⟨σ',h1,h2,h3⟩:=h
  exact⟨σ',k1.trans h1,k2.trans h2,k3.trans h3⟩
 ·exact⟨σ',k⟩
theorem Nz.at{s:Cs}(h:Nz t s):s.2.lcl≤s.2.p∧(s.1≠-1→0<s.2.lcl∧s.2.p-s.2.lcl<t.length∧s.1=((dec (t.drop (s.2.p-s.2.lcl))).1:Int)):=by
 obtain⟨σ',h1,h2,h3⟩:=h;have hp:=Qj1 t σ';refine⟨by omega,fun hn=>?_⟩;have hq:s.2.p-s.2.lcl=σ'.p:=by omega
 by_cases hl:t.length≤σ'.p
 ·exact absurd (h1.trans (Qhk hl).1) hn
 ·have:=nxt_p (t:=t) (σ:=σ') (by omega)
  refine⟨by omega,by omega,?_⟩;rw[hq,h1];unfold nxt;rw[if_neg hl];split
  ·rename_i hx;rw[hx.1];rfl
  ·split
   ·rename_i hx;rw[hx];rfl
   ·split
    ·rename_i hx;rw[hx];rfl
    ·rfl
theorem Qkf(ho:o≤t.length):∀(f f':Nat)(s s':Cs),mu t s<f→mu (t.take o) s'<f'→Sim o s s'→Nz t s→(Qjh t f s).2.p=o+(Qjh t f s).2.lcl→(Qjh t f s).1≠-1→(Qb4 (t.take o) f' s').1=0
 | 0,_,_,_,h,_,_,_,_,_=>absurd h (Nat.not_lt_zero _)
 | _,0,_,_,_,h,_,_,_,_=>absurd h (Nat.not_lt_zero _)
 | f+1,f'+1,s,s',hf,hf',hS,hz,hl,hn=>by
  have hbl:Bd o (Qjh t (f+1) s):=.inr hl;have hub:Bd o (QaA t s):=hbl.rch ((Qjf _ s).2 (by simp));have hu:=ws_sim ho hS hub;have hzu:=hz.rch (Qky s);have hst:=fun v h=>Qdy t (s:=s) (u:=QaA t s) (v:=v) rfl h
  have hst':=fun v h=>Qdy (t.take o) (s:=s') (u:=QaA (t.take o) s') (v:=v) rfl h
  rw[Qjh]at hl hn hbl;rw[Qb4];simp only;generalize QaA t s=u at *;generalize QaA (t.take o) s'=u' at *;by_cases c:u.1=47∧((nxt t (QaJ u.2)).1=47∨(nxt t (QaJ u.2)).1=42)
  ·rw[if_pos c]at hl hn hbl
   obtain⟨c5,c6⟩:=c;have hbv:Bd o (nxt t (QaJ u.2)):=hbl.rch (.inr (Qjl.rch (Qjf f _).1));have hv:=Qjd ho hbv;have hst2:=hst _ c5 rfl c6;rcases hu with⟨hp,rfl⟩ | hu
   ·have hst2':=hst' _ c5 rfl
    generalize nxt t (QaJ u'.2)=v at *;generalize nxt (t.take o) (QaJ u'.2)=v' at *;rcases hv with⟨hp2,rfl⟩ | hv
    ·rw[if_neg (by rw[c5];decide),if_neg (by rw[c5];decide),if_neg (by rw[c5];decide),if_neg (by rw[c5];decide),if_pos c5,if_pos c6]
     have h2:=hst2' c6;exact Qkf ho f f' _ _ (Nat.lt_of_lt_of_le (Nat.lt_of_succ_lt hst2) (Nat.le_of_lt_succ hf)) (Nat.lt_of_lt_of_le (Nat.lt_of_succ_lt h2) (Nat.le_of_lt_succ hf')) (Qkx ho (hbl.rch (Qjf f _).1)) (by obtain⟨σ',_,k⟩:=Qjl (t:=t) (v:=v');exact⟨σ',k⟩) hl hn
    ·exact(Sim.stuck hv.1 (Qjl.rch (Qjf f _).1) hbl).elim
   ·exact(Sim.stuck hu.1 (((Sp.nxt t (QaJ u.2):Sp t u.2 _).trans Qjl).rch (Qjf f _).1) hbl).elim
  ·rw[if_neg c]at hl hn
   have h1:=(hzu.at.2 hn).1;rcases hu with⟨hp,rfl⟩ | hu
   ·omega
   ·rw[if_pos hu.2.2.2.1]
theorem Qjx:∀(f:Nat)(s:Cs),mu t s<f→(Qb4 t f s).2.2.po=(((Qjh t f s).2.p-(Qjh t f s).2.lcl:Nat):Int)∧(Qb4 t f s).2.2.ts=some ((Qjh t f s).2.p-(Qjh t f s).2.lcl)∧((Qb4 t f s).1≠0→(Qjh t f s).1≠-1)∧((Qjh t f s).1=59→(Qb4 t f s).1=5)∧Rch t (Qjh t f s) (Qb4 t f s).2
 | 0,_,h=>absurd h (Nat.not_lt_zero _)
 | f+1,s,h=>by
  have hst:=fun v h=>Qdy t (s:=s) (u:=QaA t s) (v:=v) rfl h
  have hrr:=Qk0 (t:=t) f s;rw[Qb4]at hrr ⊢;rw[Qjh];simp only at hrr ⊢;generalize QaA t s=u at *;by_cases c1:u.1=-1
  ·have hc:¬(u.1=47∧((nxt t (QaJ u.2)).1=47∨(nxt t (QaJ u.2)).1=42)):=by rw[c1];omega
   rw[if_neg hc];rw[if_pos c1]at hrr ⊢;exact⟨rfl,rfl,fun h=>absurd rfl h,fun h=>by rw[h]at c1;exact absurd c1 (by decide),hrr⟩
  rw[if_neg c1]at hrr ⊢;by_cases c5:u.1=47
  ·rw[if_neg (by rw[c5];decide),if_neg (by rw[c5];decide),if_neg (by rw[c5];decide),if_pos c5]at hrr ⊢
   by_cases c6:(nxt t (QaJ u.2)).1=47∨(nxt t (QaJ u.2)).1=42
   ·rw[if_pos c6,if_pos ⟨c5,c6⟩]
    exact Qjx f _ (Nat.lt_of_lt_of_le (Nat.lt_of_succ_lt (hst _ c5 rfl c6)) (Nat.le_of_lt_succ h))
   ·have hc:¬(u.1=47∧((nxt t (QaJ u.2)).1=47∨(nxt t (QaJ u.2)).1=42)):=fun h=>c6 h.2
    rw[if_neg c6]at hrr ⊢;rw[if_neg hc];have hk:=(Kp.nxt t (QaJ u.2)).trans (Kp.op t 47 (nxt t (QaJ u.2)));exact⟨hk.2.1,hk.1,fun _=>c1,fun h=>by rw[h]at c5;exact absurd c5 (by decide),hrr⟩
  ·have hc:¬(u.1=47∧((nxt t (QaJ u.2)).1=47∨(nxt t (QaJ u.2)).1=42)):=fun h=>c5 h.1
   rw[if_neg hc];by_cases c2:isId u.1 true=true
   ·rw[if_pos c2]at hrr ⊢
    have hk:=(Kp.nxt t (QaJ u.2)).trans (Kp.id t (t.length+2) (nxt t (QaJ u.2)));exact⟨hk.2.1,hk.1,fun _=>c1,fun h=>by rw[h]at c2;exact absurd c2 (by decide),hrr⟩
   rw[if_neg c2]at hrr ⊢;by_cases c3:QaZ u.1=true
   ·rw[if_pos c3]at hrr ⊢
    have hk:=Kp.num t (t.length+2) (u.1,QaJ u.2);exact⟨hk.2.1,hk.1,fun _=>c1,fun h=>by rw[h]at c3;exact absurd c3 (by decide),hrr⟩
   rw[if_neg c3]at hrr ⊢;by_cases c4:u.1=34
   ·rw[if_pos c4]at hrr ⊢
    have hk:=((Kp.nxt t (QaJ u.2)).trans (Kp.str t (t.length+2) (nxt t (QaJ u.2)))).trans (Kp.nxt t _);exact⟨hk.2.1,hk.1,fun _=>c1,fun h=>by rw[h]at c4;exact absurd c4 (by decide),hrr⟩
   rw[if_neg c4,if_neg c5]at hrr ⊢;have hk:=(Kp.nxt t (QaJ u.2)).trans (Kp.op t u.1 (nxt t (QaJ u.2)));exact⟨hk.2.1,hk.1,fun _=>c1,fun h=>by rw[h];rfl,hrr⟩
variable {t:List UInt8}{o:Nat}
theorem Nz.eof{s:Cs}(h:Nz t s)(hn:s.1=-1):t.length≤s.2.p-s.2.lcl:=by
 obtain⟨σ',h1,h2,h3⟩:=h;have hp:=Qj1 t σ';by_cases hl:t.length≤σ'.p
 ·omega
 ·exfalso
  rw[hn]at h1;unfold nxt at h1;rw[if_neg hl]at h1
  repeat' split at h1
  all_goals(simp only at h1;omega)
theorem Nz.ge{s:Cs}(h:Nz t s):-1≤s.1:=by obtain⟨σ',h1,_⟩:=h;rw[h1];exact nxt_ge t σ'
theorem QjK{a e:Nat}(h:e≤o):tokT (t.take o) a e=tokT t a e:=by
 unfold tokT;rw[List.drop_take,List.take_take,Nat.min_eq_left (by omega)]
abbrev rd(t:List UInt8)(σ:Sc):Int×Cs:=Qb4 t (t.length+3) (QaG t σ)
theorem Qji{σ:Sc}(hz:Nz t (QaG t σ)):QaG t (Qa3 t σ).2=((rd t σ).2.1,{(rd t σ).2.2 with ch:=(rd t σ).2.1,ts:=none,pl:=0}):=by
 have h1:-1≤(Qa3 t σ).2.ch:=(hz.rch (Qjk _ _)).ge;unfold QaG;rw[if_neg (by omega)];rfl
theorem Qjt{σ:Sc}(hz:Nz t (QaG t σ)):Nz t (QaG t (Qa3 t σ).2):=by
 rw[Qji hz];exact hz.rch (Qjk _ _)
theorem Qju:Nz t (QaG t σ0):=⟨σ0,rfl,rfl,rfl⟩
theorem QjD(σ:Sc):mu t (QaG t σ)<t.length+3:=by have:=Qfd t (QaG t σ);omega
def pos(t:List UInt8)(σ:Sc):Nat:=(Qjh t (t.length+3) (QaG t σ)).2.p-(Qjh t (t.length+3) (QaG t σ)).2.lcl
theorem Qjy{σ:Sc}(hz:Nz t (QaG t σ)):Nz t (Qjh t (t.length+3) (QaG t σ)):=hz.rch (Qjf _ _).1
theorem QjW(σ:Sc):(Qa3 t σ).1.off=(pos t σ:Int):=(Qjx _ _ (QjD σ)).1
theorem Qk1{σ:Sc}(hz:Nz t (QaG t σ))(h:(Qa3 t σ).1.ty≠0):(Qjh t (t.length+3) (QaG t σ)).1≠-1∧pos t σ<t.length:=by
 have h1:=(Qjx _ _ (QjD (t:=t) σ)).2.2.1 (tok_ty h);exact⟨h1,((Qjy hz).at.2 h1).2.1⟩
theorem tok_text(σ:Sc):(Qa3 t σ).1.tx=⟨(tokT t (pos t σ) ((rd t σ).2.2.p-(rd t σ).2.2.lcl)).toArray⟩:=by
 have h1:=(Qjx _ _ (QjD (t:=t) σ)).2.1;show(⟨(((rd t σ).2.2.ts.map fun s=>tokT t s ((rd t σ).2.2.p-(rd t σ).2.2.lcl)).getD []).toArray⟩:ByteArray)=_;rw[h1];rfl
theorem tok_semi{σ:Sc}(hz:Nz t (QaG t σ))(h:(Qa3 t σ).1.tx.data.toList=[59]):(Qa3 t σ).1.ty=5:=by
 rw[tok_text]at h;simp only[tokT]at h;have hl:=Qjy hz;have hd:∃r,t.drop (pos t σ)=59::r:=by
  cases hq:t.drop (pos t σ)with
  | nil=>rw[hq]at h;simp at h
  | cons a r =>
   rw[hq]at h;cases hn:(rd t σ).2.2.p-(rd t σ).2.2.lcl-pos t σ with
   | zero=>rw[hn]at h;simp at h
   | succ m=>rw[hn]at h;simp at h;exact⟨r,by rw[h.1]⟩
 obtain⟨r,hd⟩:=hd;have hn:(Qjh t (t.length+3) (QaG t σ)).1≠-1:=by
  intro e;have:t.length≤pos t σ:=hl.eof e;rw[List.drop_of_length_le this]at hd;cases hd
 have h59:(Qjh t (t.length+3) (QaG t σ)).1=59:=by
  rw[(hl.at.2 hn).2.2];show((dec (t.drop (pos t σ))).1:Int)=59;rw[hd];unfold dec;rw[if_neg (by simp)];unfold Lib.decodeN;rw[if_pos (by simp)];rfl
 have h5:=(Qjx _ _ (QjD (t:=t) σ)).2.2.2.1 h59;show(Qdx t (rd t σ).1 (rd t σ).2.2).ty=5;rw[show(rd t σ).1=5 from h5];unfold Qdx;simp only;rw[if_neg (by omega)]
theorem QjL:∀(f:Nat)(acc:List Tok)(p:Tok×Sc)(ts:List Tok),Qde t f acc p=some ts→∃l,ts=acc++l
 | 0,_,_,_,h=>by cases h
 | f+1,acc,p,ts,h=>by
  rw[Qde]at h;split at h
  ·cases h
  ·split at h
   ·cases h;exact⟨_,rfl⟩
   ·obtain⟨l,hl⟩:=QjL f _ _ _ h
    exact⟨p.1::l,by rw[hl];simp⟩
theorem Qjz{f:Nat}{acc:List Tok}{p:Tok×Sc}{ts:List Tok}{k:Nat}{x:Tok}(h:Qde t f acc p=some ts)(hk:ts[acc.length+k]? =some x)(hx:x.ty≠0):p.1.ty≠0∧∃f',Qde t f' (acc++[p.1]) (Qa3 t p.2)=some ts:=by
 cases f with
 | zero=>cases h
 | succ f =>
  rw[Qde]at h;split at h
  ·cases h
  ·split at h
   ·cases h
    exfalso;rw[List.getElem?_append_right (by omega)]at hk;cases k with
    | zero=>simp at hk;subst hk;exact hx rfl
    | succ k=>simp at hk
   ·rename_i h2
    exact⟨h2,f,h⟩
theorem QjE{f:Nat}{acc:List Tok}{p:Tok×Sc}{ts:List Tok}(h:Qde t f (acc++[p.1]) (Qa3 t p.2)=some ts):ts[acc.length]? =some p.1:=by
 obtain⟨l,hl⟩:=QjL _ _ _ _ h;rw[hl,List.append_assoc,List.getElem?_append_right (by omega)];simp
theorem QjF:∀(k f:Nat)(acc:List Tok)(σ:Sc)(ts:List Tok)(x:Tok),Nz t (QaG t σ)→Qde t f acc (Qa3 t σ)=some ts→ts[acc.length+k]? =some x→x.ty≠0→x.off=(o:Int)→Bd o (QaG t σ)∧o<t.length
 | 0,f,acc,σ,ts,x,hz,h,hk,hx,ho=>by
  obtain⟨h1,f',h2⟩:=Qjz h hk hx;rw[Nat.add_zero,QjE h2]at hk;cases hk;have hn:=Qk1 hz h1;rw[QjW]at ho;have hl:=(Qjy hz).at.1;have hb:Bd o (Qjh t (t.length+3) (QaG t σ)):=.inr (by unfold pos at ho;omega);exact⟨hb.rch (Qjf _ _).1,by omega⟩
 | k+1,f,acc,σ,ts,x,hz,h,hk,hx,ho=>by
  obtain⟨h1,f',h2⟩:=Qjz h hk hx;have:=QjF k f' _ (Qa3 t σ).2 ts x (Qjt hz) h2 (by rw[List.length_append,List.length_singleton,Nat.add_assoc,Nat.add_comm 1 k];exact hk) hx ho;refine⟨?_,this.2⟩;have hb:=this.1;rw[Qji hz]at hb;exact Bd.rch (u:=(rd t σ).2) hb (Qjk _ _)
theorem tok_sim{r r':Cs}{a:Nat}{k:Int}(hS:Sim o r r')(hl:r.2.lcl≤r.2.p)(ha:r.2.ts=some a):(Qdx (t.take o) k r'.2).tx=(Qdx t k r.2).tx∧(Qdx (t.take o) k r'.2).ty=(Qdx t k r.2).ty:=by
 have hx:(Qdx (t.take o) k r'.2).tx=(Qdx t k r.2).tx:=by
  rcases hS with⟨hp,rfl⟩ | hS
  ·simp only[Qdx,ha,Option.map_some,Option.getD_some]
   rw[QjK (by omega)]
  ·simp only[Qdx,ha,hS.2.2.2.2.2.2,Option.map_some,Option.getD_some]
   rw[hS.2.2.2.2.1,hS.2.2.2.2.2.1,QjK (by omega),show r.2.p-r.2.lcl=o-0 by have:=hS.2.1;omega]
 refine⟨hx,?_⟩;show(if k=1∧Qdv (Qdx (t.take o) k r'.2).tx=true then(3:Int)else k)=if k=1∧Qdv (Qdx t k r.2).tx=true then 3 else k
 rw[hx]
theorem Qk2{σ σ':Sc}(hz:Nz t (QaG t σ))(hz':Nz (t.take o) (QaG (t.take o) σ'))(h:Sim o (rd t σ).2 (rd (t.take o) σ').2):Sim o (QaG t (Qa3 t σ).2) (QaG (t.take o) (Qa3 (t.take o) σ').2):=by
 rw[Qji hz,Qji hz'];rcases h with⟨hp,h⟩ | h
 ·exact .inl ⟨hp,by rw[h]⟩
 ·exact .inr ⟨h.1,h.2.1,h.2.2.1,h.2.2.2.1,h.2.2.2.2.1,h.2.2.2.2.2.1,rfl⟩
theorem QjM(ho:o≤t.length):∀(k f f':Nat)(acc acc':List Tok)(σ σ':Sc)(ts ts':List Tok)(x:Tok),Nz t (QaG t σ)→Nz (t.take o) (QaG (t.take o) σ')→Qde t f acc (Qa3 t σ)=some ts→Qde (t.take o) f' acc' (Qa3 (t.take o) σ')=some ts'→Sim o (QaG t σ) (QaG (t.take o) σ')→ts[acc.length+k]? =some x→x.ty≠0→x.off=(o:Int) →
  ∃(l:List Tok)(e:Tok),ts'=acc'++l++[e]∧l.length=k∧e.tx=⟨#[]⟩∧∀(i:Nat)(y:Tok),l[i]? =some y→∃z:Tok,ts[acc.length+i]? =some z∧y.ty=z.ty∧y.tx=z.tx∧y.ty≠0
 | 0,f,f',acc,acc',σ,σ',ts,ts',x,hz,hz',h,h',hS,hk,hx,hxo=>by
  obtain⟨h1,f2,h2⟩:=Qjz h hk hx;rw[Nat.add_zero,QjE h2]at hk;cases hk;have hn:=Qk1 hz h1;rw[QjW]at hxo;have hl:=(Qjy hz).at.1;have he:=Qkf ho (t.length+3) ((t.take o).length+3) _ _ (QjD σ) (QjD σ') hS hz (by unfold pos at hxo;omega) hn.1;have hty:(Qa3 (t.take o) σ').1.ty=0:=by
   show(Qdx (t.take o) (rd (t.take o) σ').1 (rd (t.take o) σ').2.2).ty=0;rw[show(rd (t.take o) σ').1=0 from he];unfold Qdx;simp only;rw[if_neg (by omega)]
  cases f' with
  | zero=>cases h'
  | succ f' =>
   rw[Qde]at h';by_cases her:(Qa3 (t.take o) σ').2.er=true
   ·rw[if_pos her]at h'
    cases h'
   ·rw[if_neg her,if_pos hty]at h'
    cases h';exact⟨[],Qf4 (Qa3 (t.take o) σ').2,by simp,rfl,rfl,fun i y hi=>by simp at hi⟩
 | k+1,f,f',acc,acc',σ,σ',ts,ts',x,hz,hz',h,h',hS,hk,hx,hxo=>by
  obtain⟨h1,f2,h2⟩:=Qjz h hk hx;have hat:=QjE h2;have hk2:ts[(acc++[(Qa3 t σ).1]).length+k]? =some x:=by rw[List.length_append,List.length_singleton,Nat.add_assoc,Nat.add_comm 1 k];exact hk
  have hb:=(QjF k f2 _ (Qa3 t σ).2 ts x (Qjt hz) h2 hk2 hx hxo).1;rw[Qji hz]at hb;have hr:=Qke ho (t.length+3) ((t.take o).length+3) _ _ (QjD σ) (QjD σ') hS hb;have hzr:Nz t (rd t σ).2:=hz.rch (Qjk _ _);have ht:=tok_sim (t:=t) (k:=(rd t σ).1) hr.2 hzr.at.1 (Qjx _ _ (QjD (t:=t) σ)).2.1;have e1:(Qa3 (t.take o) σ').1=Qdx (t.take o) (rd (t.take o) σ').1 (rd (t.take o) σ').2.2:=rfl;rw[show(rd (t.take o) σ').1=(rd t σ).1 from hr.1]at e1
  have htx:(Qa3 (t.take o) σ').1.tx=(Qa3 t σ).1.tx:=by rw[e1];exact ht.1
  have hty:(Qa3 (t.take o) σ').1.ty=(Qa3 t σ).1.ty:=by rw[e1];exact ht.2
  cases f' with
  | zero=>cases h'
  | succ f' =>
   rw[Qde]at h';split at h'
   ·cases h'
   ·rw[if_neg (by rw[hty];exact h1)]at h'
    obtain⟨l,e,q1,q2,q3,q4⟩:=QjM ho k f2 f' _ _ (Qa3 t σ).2 (Qa3 (t.take o) σ').2 ts ts' x (Qjt hz) (Qjt hz') h2 h' (Qk2 hz hz' hr.2) hk2 hx hxo;refine⟨(Qa3 (t.take o) σ').1::l,e,by rw[q1];simp,by rw[List.length_cons,q2],q3,fun i y hi=>?_⟩;cases i with
    | zero =>
     simp at hi;subst hi;exact⟨_,hat,hty,htx,by rw[hty];exact h1⟩
    | succ i =>
     rw[List.getElem?_cons_succ]at hi;obtain⟨z,z1,z2⟩:=q4 i y hi;rw[List.length_append,List.length_singleton,Nat.add_assoc,Nat.add_comm 1 i]at z1;exact⟨z,z1,z2⟩
theorem toks_cut{ts ts':List Tok}{x:Tok}{k:Nat}(h:toks t=some ts)(h':toks (t.take o)=some ts')(hk:ts[k]? =some x)(hx:x.ty≠0)(hxo:x.off=(o:Int)) :
  ∃(l:List Tok)(e:Tok),ts'=l++[e]∧l.length=k∧e.tx=⟨#[]⟩∧∀(i:Nat)(y:Tok),l[i]? =some y→∃z:Tok,ts[i]? =some z∧y.ty=z.ty∧y.tx=z.tx∧y.ty≠0:=by
 have hk0:ts[([]:List Tok).length+k]? =some x:=by simpa using hk
 have hb:=QjF k _ [] σ0 ts x Qju h hk0 hx hxo;have hS:Sim o (QaG t σ0) (QaG (t.take o) σ0):=by
  have h1:=Qjd (t:=t) (σ:=σ0) (Nat.le_of_lt hb.2) (by
   have:=hb.1;exact this)
  show Sim o ((nxt t σ0).1,{(nxt t σ0).2 with ch:=(nxt t σ0).1,ts:=none,pl:=0}) ((nxt (t.take o) σ0).1,{(nxt (t.take o) σ0).2 with ch:=(nxt (t.take o) σ0).1,ts:=none,pl:=0});rcases h1 with⟨hp,h⟩ | h
  ·exact .inl ⟨hp,by rw[h]⟩
  ·exact .inr ⟨h.1,h.2.1,h.2.2.1,h.2.2.2.1,h.2.2.2.2.1,h.2.2.2.2.2.1,rfl⟩
 obtain⟨l,e,q1,q2,q3,q4⟩:=QjM (Nat.le_of_lt hb.2) k _ _ [] [] σ0 σ0 ts ts' x Qju Qju h h' hS hk0 hx hxo;exact⟨l,e,by simpa using q1,q2,q3,fun i y hi=>by obtain⟨z,z1,z2⟩:=q4 i y hi;exact⟨z,by simpa using z1,z2⟩⟩
theorem QjN:∀(f:Nat)(acc:List Tok)(σ:Sc)(ts:List Tok),Nz t (QaG t σ)→(∀x∈acc,x.ty≠0∧(x.tx.data.toList=[59]→x.ty=5)∧∃o:Nat,x.off=(o:Int)∧o<t.length)→Qde t f acc (Qa3 t σ)=some ts→∃l e,ts=l++[e]∧e.ty=0∧e.tx=⟨#[]⟩∧∀x∈l,x.ty≠0∧(x.tx.data.toList=[59]→x.ty=5)∧∃o:Nat,x.off=(o:Int)∧o<t.length
 | 0,_,_,_,_,_,h=>by cases h
 | f+1,acc,σ,ts,hz,ha,h=>by
  rw[Qde]at h;split at h
  ·cases h
  ·split at h
   ·cases h
    exact⟨acc,_,rfl,rfl,rfl,ha⟩
   ·rename_i h1
    exact QjN f _ (Qa3 t σ).2 ts (Qjt hz) (fun x hx=>by
     rcases List.mem_append.1 hx with hx | hx
     ·exact ha x hx
     ·rw[List.mem_singleton]at hx
      subst hx;exact⟨h1,tok_semi hz,pos t σ,QjW σ,(Qk1 hz h1).2⟩) h
theorem Qkg{ts:List Tok}(h:toks t=some ts):∃l e,ts=l++[e]∧e.ty=0∧e.tx=⟨#[]⟩∧∀x∈l,x.ty≠0∧(x.tx.data.toList=[59]→x.ty=5)∧∃o:Nat,x.off=(o:Int)∧o<t.length :=
 QjN _ _ σ0 ts Qju (by simp) h
end Go.Proofs.Pg
