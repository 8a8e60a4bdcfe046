/- FnPolicyCut, part 27. -/
import Derived.Test.YtmhjkkkhdlnngaaGreatDoorP20
import Derived.Test.YtmhjkkkhdlnngaaGreatDoorP21
import Derived.Test.YtmhjkkkhdlnngaaGreatDoorP24
set_option linter.all false
set_option maxRecDepth 100000
set_option maxHeartbeats 0
namespace Go.Proofs.Pg
open Go.RowKit
attribute [local go_sem] Oper.semAt_some
theorem nxt_ge(t:List UInt8)(σ:Sc):-1≤(nxt t σ).1:=by
 unfold nxt
 repeat' split
 all_goals(simp only;omega)
def Ge(s:Cs):Prop:=-1≤s.1
theorem Ge.nxt(t:List UInt8)(σ:Sc):Ge (nxt t σ):=nxt_ge t σ
theorem Ge.idL(t:List UInt8):∀(f:Nat)(s:Cs),Ge s→Ge (idL t f s)
 | 0,s,h=>h
 | f+1,s,h=>by rw[Pg.idL];split;exact Ge.idL t f _ (Ge.nxt t _);exact h
theorem Ge.numL(t:List UInt8):∀(f:Nat)(s:Cs),Ge s→Ge (numL t f s)
 | 0,s,h=>h
 | f+1,s,h=>by rw[Pg.numL];split;exact Ge.numL t f _ (Ge.nxt t _);exact h
theorem Ge.wsL(t:List UInt8):∀(f:Nat)(s:Cs),Ge s→Ge (wsL t f s)
 | 0,s,h=>h
 | f+1,s,h=>by rw[Pg.wsL];split;exact Ge.wsL t f _ (Ge.nxt t _);exact h
theorem Ge.lineL(t:List UInt8):∀(f:Nat)(s:Cs),Ge s→Ge (lineL t f s)
 | 0,s,h=>h
 | f+1,s,h=>by rw[Pg.lineL];split;exact Ge.lineL t f _ (Ge.nxt t _);exact h
theorem Ge.comL(t:List UInt8):∀(f:Nat)(s:Cs),Ge s→Ge (comL t f s)
 | 0,s,h=>h
 | f+1,s,h=>by
  rw[Pg.comL];simp only;split
  ·exact h
  ·split
   ·exact Ge.nxt t _
   ·exact Ge.comL t f _ (Ge.nxt t _)
theorem Ge.com(t:List UInt8)(s:Cs):Ge (QaT t s):=by
 unfold QaT;split
 ·exact Ge.lineL t _ _ (Ge.nxt t _)
 ·exact Ge.comL t _ _ (Ge.nxt t _)
theorem Ge.op(t:List UInt8)(c0:Int)(s:Cs)(h:Ge s):Ge (Qbo t c0 s).2:=by
 unfold Qbo
 repeat' split
 all_goals first | exact h | exact Ge.nxt t _
theorem Qhz(t:List UInt8):∀(f:Nat)(s:Cs),Ge s→Ge (Qb4 t f s).2
 | 0,s,h=>h
 | f+1,s,h=>by
  rw[Qb4];simp only;have hu:Ge (QaA t s):=Ge.wsL t _ _ h;split
  ·exact hu
  ·split
   ·exact Ge.idL t _ _ (Ge.nxt t _)
   ·split
    ·exact Ge.numL t _ _ hu
    ·split
     ·exact Ge.nxt t _
     ·split
      ·split
       ·exact Qhz t f _ (Ge.com t _)
       ·exact Ge.op t _ _ (Ge.nxt t _)
      ·exact Ge.op t _ _ (Ge.nxt t _)
theorem idL_mu(t:List UInt8):∀(f:Nat)(s:Cs),mu t (idL t f s)≤mu t s
 | 0,s=>Xb _
 | f+1,s=>by
  rw[idL];split
  ·rename_i h
   have h1:=idL_mu t f (nxt t s.2);have h2:=Qbk t s.2;have h3:mu t s=rem t s.2+1:=Qbc (c:=s.1) (σ:=s.2) (by intro e;rw[e]at h;exact absurd h (by decide));omega
  ·exact Xb _
theorem Qh0(t:List UInt8):∀(f:Nat)(s:Cs),mu t (numL t f s)≤mu t s
 | 0,s=>Xb _
 | f+1,s=>by
  rw[numL];split
  ·rename_i h
   have h1:=Qh0 t f (nxt t s.2);have h2:=Qbk t s.2;have h3:mu t s=rem t s.2+1:=Qbc (c:=s.1) (σ:=s.2) (by intro e;rw[e]at h;exact absurd h (by decide));omega
  ·exact Xb _
theorem op_mu(t:List UInt8)(c0:Int)(s:Cs):mu t (Qbo t c0 s).2≤mu t s:=by
 have h2:=Qbk t s.2;have h3:s.1≠-1→mu t s=rem t s.2+1:=fun h=>Qbc (c:=s.1) (σ:=s.2) h
 unfold Qbo
 repeat' split
 all_goals first
  | exact Xb _
  | (have:=h3 (by omega);simp only;omega)
theorem Qh1(t:List UInt8):∀(f:Nat)(s:Cs),s.2.p≤(strL t f s).p
 | 0,s=>Xb _
 | f+1,s=>by
  rw[strL];split
  ·exact Xb _
  ·split
   ·exact Xb _
   ·split
    ·exact Xe (Nx.esc t s.2).p (Qh1 t f _)
    ·exact Xe (Qeg t s.2) (Qh1 t f _)
theorem Qh2(t:List UInt8):∀(f:Nat)(s:Cs),(Qb4 t f s).1≠0→mu t s<f→mu t (Qb4 t f s).2<mu t s
 | 0,s,_,h=>absurd h (Nat.not_lt_zero _)
 | f+1,s,hk,h=>by
  rw[Qb4]at hk ⊢;simp only at hk ⊢;generalize hu:QaA t s=u at hk ⊢;have h1:mu t u≤mu t s:=by rw[←hu];exact Qhv t _ _
  have hr:rem t (QaJ u.2)=rem t u.2:=rfl;have hn:=Qbk t (QaJ u.2);by_cases hm1:u.1=-1
  ·rw[if_pos hm1]at hk;exact absurd rfl hk
  rw[if_neg hm1]at hk ⊢;have h2:mu t u=rem t u.2+1:=Qbc (c:=u.1) (σ:=u.2) hm1;by_cases hid:isId u.1 true=true
  ·rw[if_pos hid]
   have:=idL_mu t (t.length+2) (nxt t (QaJ u.2));show mu t (Qc3 t (QaJ u.2))<_;unfold Qc3;omega
  rw[if_neg hid]at hk ⊢;by_cases hnum:QaZ u.1=true
  ·rw[if_pos hnum]
   show mu t (QbN t (u.1,QaJ u.2))<_;unfold QbN;rw[show t.length+2=(t.length+1)+1 from rfl,numL,if_pos hnum];have:=Qh0 t (t.length+1) (nxt t (QaJ u.2));simp only;omega
  rw[if_neg hnum]at hk ⊢;by_cases h34:u.1=34
  ·rw[if_pos h34]
   show mu t (nxt t (QbC t (QaJ u.2)))<_;have h3:=Qbk t (QbC t (QaJ u.2));have h4:rem t (QbC t (QaJ u.2))≤rem t (QaJ u.2):=by
    unfold rem;have:(QaJ u.2).p≤(QbC t (QaJ u.2)).p:=Xe (Qeg t _) (Qh1 t _ _);omega
   omega
  rw[if_neg h34]at hk ⊢;by_cases h47:u.1=47
  ·rw[if_pos h47]at hk ⊢
   by_cases hc:(nxt t (QaJ u.2)).1=47∨(nxt t (QaJ u.2)).1=42
   ·rw[if_pos hc]at hk ⊢
    have h5:=Qdy t hu h47 rfl hc;have h6:=Qh2 t f _ hk (Nat.lt_of_lt_of_le (Nat.lt_of_succ_lt h5) (Nat.le_of_lt_succ h));exact Nat.lt_trans h6 (Nat.lt_of_succ_lt h5)
   ·rw[if_neg hc]at hk ⊢
    have:=op_mu t 47 (nxt t (QaJ u.2));omega
  ·rw[if_neg h47]at hk ⊢
   have:=op_mu t u.1 (nxt t (QaJ u.2));omega
def MU(t:List UInt8)(σ:Sc):Nat:=mu t (QaG t σ)
theorem start_ge{t:List UInt8}{σ:Sc}(h:σ.ch=-2∨-1≤σ.ch):Ge (QaG t σ):=by
 unfold QaG;split
 ·exact Ge.nxt t _
 ·rename_i hn
  exact h.resolve_left hn
theorem QcV{t:List UInt8}{σ:Sc}(h:σ.ch=-2∨-1≤σ.ch):-1≤(Qa3 t σ).2.ch:=Qhz t _ _ (start_ge h)
theorem tok_ty{kind:Int}{t:List UInt8}{σ:Sc}(h:(Qdx t kind σ).ty≠0):kind≠0:=by
 rintro rfl;apply h;unfold Qdx;simp only;rw[if_neg (by simp)]
theorem Qgg{t:List UInt8}{σ:Sc}(h:σ.ch=-2∨-1≤σ.ch)(ht:(Qa3 t σ).1.ty≠0):MU t (Qa3 t σ).2<MU t σ:=by
 have h1:=Qh2 t (t.length+3) (QaG t σ) (tok_ty ht) (by have:=Qfd t (QaG t σ);omega);have h2:=QcV (t:=t) h;have h3:QaG t (Qa3 t σ).2=((Qa3 t σ).2.ch,{(Qa3 t σ).2 with ts:=none,pl:=0}):=by unfold QaG;rw[if_neg (by omega)]
 unfold MU;rw[h3];exact h1
theorem MU_le(t:List UInt8)(σ:Sc):MU t σ<t.length+2:=Qfd t _
section
variable (t:List UInt8)
def Qf4(σ:Sc):Tok:={ty:=0,fn:=⟨#[]⟩,off:=σ.po,ln:=σ.pl,col:=σ.pc,tx:=⟨#[]⟩}
def Qde:Nat→List Tok→Tok×Sc→Option (List Tok)
 | 0,_,_=>none
 | f+1,acc,p=>if p.2.er=true then none else if p.1.ty=0 then some (acc++[Qf4 p.2])else Qde f (acc++[p.1]) (Qa3 t p.2)
def toks:Option (List Tok):=Qde t (t.length+3) [] (Qa3 t σ0)
end
end Go.Proofs.Pg
namespace Go.Proofs.Pg
open Go.RowKit Go.Proofs.Tryz
attribute [local go_sem] Oper.semAt_some
variable {t:List UInt8}{r:Rdr}{lo b:Nat}{σ:Sc}{w w':World}
theorem sl116:SlT prog 116 122 (.agg #[.int .i64 0,.string ⟨#[]⟩,.int .i64 0,.int .i64 0,.int .i64 0,.string ⟨#[]⟩]) 6 64:=⟨by kernel_rfl,⟨Tryz.t122,by kernel_rfl,by kernel_rfl,by kernel_rfl,by kernel_rfl⟩,rfl,by decide⟩
def rows(l:List Tok):List Value:=l.flatMap (fun k=>k.row.toList)
theorem QeI(l:List Tok)(k:Tok):rows (l++[k])=rows l++k.row.toList:=by unfold rows;rw[List.flatMap_append];simp
theorem own_ne{S:Nat→Prop}{w w':World}{base:Nat}{e:TypeId}{size:Nat}{v:Value}{n:Nat}{xs:List Value}(h:w.ownsRow base e size v n xs)(he:Ext S w w')(hs:∀d,v.ownBlock=some d→¬S d):w'.ownsRow base e size v n xs:=by
 obtain⟨h1,h2⟩:=h;refine⟨h1,?_⟩;rcases h2 with h | ⟨g,cap,cur,a,b,c,d⟩
 ·exact .inl h
 ·exact .inr ⟨g,cap,cur,a,b,he.heap (hs g (by rw[a];rfl)) c,d⟩
theorem Fr.own{rb b lo:Nat}{x y:World}(h:Fr rb b lo x y){v:Value}{n:Nat}{xs:List Value}(ho:x.ownsRow lo 122 6 v n xs)(hrb:rb<lo)(hb:∀c fr,x.heap[b]?≠some (.cells c 122 fr)):y.ownsRow lo 122 6 v n xs :=
 Qdj ho h fun d hd=>by
  rcases hd with rfl | rfl | ⟨_,c,fr,hc⟩
  ·exact .inl hrb
  ·exact .inr hb
  ·refine .inr fun c' fr' hc'=>?_
   rw[hc]at hc'
   injection hc' with hc'
   injection hc' with _ hc' _
   exact absurd hc' (by decide)
theorem SW.tag(h:SW t r lo b σ w):∀c fr,w.heap[b]?≠some (.cells c 122 fr):=by
 obtain⟨F,tb,off,pos,en,X⟩:=h;obtain⟨cur,hb,_⟩:=X.sn.block;intro c fr hc;rw[hb]at hc
 injection hc with hc
 injection hc with _ hc _
 exact absurd hc (by decide)
abbrev RS(rb lo:Nat):Nat→Prop:=fun d=>d=rb∨lo≤d
theorem Fr.rs{rb b lo:Nat}{x y:World}(h:Fr rb b lo x y)(hb:lo≤b):Ext (RS rb lo) x y:=h.mono fun d hd=>by
 rcases hd with rfl | rfl | ⟨h,_⟩
 ·exact .inl rfl
 ·exact .inr hb
 ·exact .inr h
def msr(t:List UInt8)(tk:Tok)(σ:Sc):Nat:=if tk.ty=0 then 0 else MU t σ+1
theorem msr_le(t:List UInt8)(tk:Tok)(σ:Sc):msr t tk σ<t.length+3:=by
 unfold msr;have:=MU_le t σ;split<;>omega
theorem msr_next{t:List UInt8}{tk:Tok}{σ:Sc}(hc:-1≤σ.ch)(h:tk.ty≠0):msr t (Qa3 t σ).1 (Qa3 t σ).2<msr t tk σ:=by
 unfold msr;rw[if_neg h];split
 ·omega
 ·rename_i h2
  have:=Qgg (.inr hc) h2;omega
def TzR(t:List UInt8)(r:Rdr)(lo b:Nat)(w0:World)(Res:Option (List Tok))(s4 s6:Value)(wr:World):Prop :=
 ∃(f:Nat)(acc:List Tok)(tk:Tok)(σ':Sc)(bx:Nat),s6=.pointer (some ⟨bx,0,none⟩)∧wr.heap[bx]? =some (.cells tk.row 122 (0,0))∧lo≤bx∧s4.ownBlock≠some bx∧wr.ownsRow lo 122 6 s4 acc.length (rows acc) ∧
  SW t r lo b σ' wr∧-1≤σ'.ch∧Ext (RS r.rb lo) w0 wr∧msr t tk σ'<f∧msr t tk σ'+acc.length<t.length+5∧Qde t f acc (tk,σ')=Res∧(∀k∈acc,k.tx.size≤1000000)∧tk.tx.size≤1000000∧(s4=.slice none 0 0→acc=[])
def TzP(rb:Nat)(lo:Nat)(w0:World)(Res:Option (List Tok))(e:Ending)(w':World):Prop :=
 Ext (fun d=>d=rb) w0 w'∧match Res with
 | none=>∃T,∃p:EVal rb w' T,e=.returned (.tuple #[.slice none 0 0,.iface T p.1])
 | some ts=>∃g cap,e=.returned (.tuple #[.slice (some ⟨g,0,none⟩) ts.length cap,.nilIface])∧lo≤g∧(∃cur,w'.heap[g]? =some (.cells cur 122 (0,0))∧cur.toList.take (ts.length*6)=rows ts)∧(∀k∈ts,k.tx.size≤1000000)∧ts.length≤t.length+5
theorem tokSz(t:List UInt8)(h:t.length≤1000000)(σ:Sc):(Qa3 t σ).1.tx.size≤1000000:=by
 show((((Qb4 t (t.length+3) (QaG t σ)).2.2.ts.map fun s=>tokT t s _).getD []).toArray).size≤_;rw[List.size_toArray];cases (Qb4 t (t.length+3) (QaG t σ)).2.2.ts with
 | none=>exact Nat.zero_le _
 | some s =>
  show(tokT t s _).length≤_;unfold tokT;rw[List.length_take,List.length_drop];omega
theorem SW.other{S:Nat→Prop}(h:SW t r lo b σ w)(he:Ext S w w')(hlo:∀d,S d→lo≤d)(hb:¬S b)(hs:∀d,S d→∀c fr,w.heap[d]?≠some (.cells c 5 fr)):SW t r lo b σ w':=by
 obtain⟨F,tb,off,pos,en,X⟩:=h;exact⟨F,tb,off,pos,en,X.move (X.sn.other he hb hs) (he.mono hlo) X.wf rfl⟩
theorem SW.later(h:SW t r lo b σ w)(hB:Below w.heap.size w w'):SW t r lo b σ w' :=
 h.other (S:=fun _=>False) (.below hB) (fun _ h=>h.elim) (fun h=>h) (fun _ h=>h.elim)
theorem SW.grow{v:Value}{n:Nat}{xs:List Value}(h:SW t r lo b σ w)(ho:w.ownsRow lo 122 6 v n xs)(hg:w.grownBy w' v.ownBlock):SW t r lo b σ w':=by
 refine h.other (QaF ho hg) (fun d hd=>(Qa5 ho hd).1) (fun hd=>?_) (fun d hd c fr hc=>?_)
 ·obtain⟨_,c,hc⟩:=Qa5 ho hd
  exact h.tag c _ hc
 ·obtain⟨_,c',hc'⟩:=Qa5 ho hd
  rw[hc]at hc'
  injection hc' with hc'
  injection hc' with _ hc' _
  exact absurd hc' (by decide)
theorem SW.box{bx:Nat}{cs:Array Value}{fr:Nat×Nat}(h:SW t r lo b σ w)(hb:w.heap[bx]? =some (.cells cs 122 fr))(hl:lo≤bx)(he:Ext (fun d=>d=bx) w w'):SW t r lo b σ w':=by
 refine h.other he (fun d hd=>by subst hd;exact hl) (fun hd=>?_) (fun d hd c fr hc=>?_)
 ·subst hd;exact h.tag _ _ hb
 ·subst hd
  rw[hb]at hc
  injection hc with hc
  injection hc with _ hc _
  exact absurd hc (by decide)
def MUW(n b:Nat)(w:World):Nat:=match w.cell? ⟨b,1038,none⟩with
 | some (.int _ c)=>if c=-1 then 0 else remW n b w+1
 | _=>0
theorem SW.MUW(h:SW t r lo b σ w)(hc:-1≤σ.ch):MUW t.length b w=MU t σ:=by
 have hr:=h.rem;obtain⟨F,tb,off,pos,en,X⟩:=h;unfold Pg.MUW MU QaG;rw[X.sn.c_ch,X.wf.fch,if_neg (show ¬σ.ch=-2 by omega)];show(if σ.ch=-1 then 0 else remW t.length b w+1)=Pg.mu t (σ.ch,{σ with ts:=none,pl:=0});rw[hr];rfl
def MUT(n b:Nat)(v:Value)(w:World):Nat:=match v with
 | .pointer (some a)=>(match w.cell? a with
  | some (.int _ c)=>if c=0 then 0 else MUW n b w+1
  | _=>0)
 | _=>0
theorem MUT_of{bx:Nat}{tk:Tok}(h:SW t r lo b σ w)(hc:-1≤σ.ch)(hb:w.heap[bx]? =some (.cells tk.row 122 (0,0))):MUT t.length b (.pointer (some ⟨bx,0,none⟩)) w=msr t tk σ:=by
 have k0:w.cell? ⟨bx,0,none⟩=some (.int .i64 tk.ty):=Qaa hb rfl;unfold MUT msr;simp only[k0];rw[h.MUW hc]
theorem Qgs(hR:r.R w t)(hT:Lib.Utf8Tabs 1 2 w)(hE:∃a,w.cell? ⟨0,0,none⟩=some (.iface 346 (.pointer (some a))))(h15:15≤w.heap.size)(hl:t.length≤900000)(hL:RdLaw r w.heap.size) :
  Calls prog 60 #[r.val] w (TzP (t:=t) r.rb w.heap.size w (toks t)):=by
 obtain⟨lo,hlo⟩:∃lo,w.heap.size=lo:=⟨_,rfl⟩
 rw[hlo]at h15 hL ⊢;have HLO:=Hi hlo;have HL:=Hi hL;clear hL;have HR:=Hi hR;clear hR;have HT:=Hi hT;clear hT;have HE:=Hi hE;clear hE;clear hlo;go_enter func60,ntmps60
 go_upto_region 3 with(fail)
 refine Qba fun w1 hw1=>?_
 have S1:Sn w1 lo w.heap.size F0 []:=hw1▸sn_zero w lo (Nat.le_of_eq HLO.out.symm);have B1:Below w.heap.size w w1:=hw1▸Qab _ _;have hz1:lo<w1.heap.size:=by rw[hw1,←HLO.out];simp
 clear hw1;rw[HLO.out]at S1 ⊢;have hR1:r.R w1 t:=HL.out.keep _ _ _ HR.out (.below B1);have hT1:=Qbg HT.out (Ext.below (S:=fun _=>False) B1) (fun h=>h) (fun h=>h);have hE1:∃a,w1.cell? ⟨0,0,none⟩=some (.iface 346 (.pointer (some a))):=by
  obtain⟨a,ha⟩:=HE.out;exact⟨a,(Ext.below (S:=fun _=>False) B1).cell (p:=⟨0,0,none⟩) (fun h=>h) ha⟩
 go_wp2_with fail
 refine(init_c (t:=t) S1 hR1 hT1 hE1 (by omega) h15 (by omega) HL.out).mono ?_;rintro e w2⟨rfl,h2,E2⟩;have hz2:=Nat.lt_of_lt_of_le hz1 E2.size;clear S1 hR1 hT1 hE1;have HX2:Hid (Ext (RS r.rb lo) w w2):=Hi ((Ext.below B1).trans (E2.mono fun d h=>.inr (Nat.le_of_eq h.symm)));clear E2 B1 hz1
 go_wp2_with fail
 refine(Qe5 h2 HL.out.hrb).mono ?_;rintro e w3⟨rfl,h3,F3⟩;clear h2;have hz3:=Nat.lt_of_lt_of_le hz2 F3.size;have HX3:Hid (Ext (RS r.rb lo) w w3):=Hi (HX2.out.trans (F3.rs (Xb _)));have HSZ:Hid ((Qa3 t σ0).1.tx.size≤1000000):=Hi (tokSz t (by omega) _);have HCH:Hid (-1≤(Qa3 t σ0).2.ch):=Hi (QcV (.inl rfl));have HS3:=Hi h3;clear h3 F3;have HRS:Hid (Qde t (t.length+3) [] (Qa3 t σ0)=toks t):=Hi rfl;generalize toks t=Res at *
 generalize hn0:Qa3 t σ0=n0 at *;clear hn0;obtain⟨tk,σ1⟩:=n0;simp only at HS3 HSZ HCH
 go_upto_block 0 with(fail)
 refine Qba fun w4 hw4=>?_
 have hb4:w4.heap[w3.heap.size]? =some (.cells tk.row 122 (0,0)):=hw4▸Xa w3 _;have B4:Below w3.heap.size w3 w4:=hw4▸Qab w3 _;clear hw4;have HTZ:Hid (TzR t r lo lo w Res (.slice none 0 0) (.pointer (some ⟨w3.heap.size,0,none⟩)) w4):=Hi ⟨t.length+3,[],tk,σ1,w3.heap.size,rfl,hb4,Nat.le_of_lt hz3,by simp[Value.ownBlock],World.ownsRow_nil _ _ _ _,HS3.out.later B4,HCH.out,HX3.out.trans (.below B4),msr_le t tk σ1,by have:=msr_le t tk σ1;simp only[List.length_nil];omega,HRS.out,by simp,HSZ.out,fun _=>rfl⟩
 clear hb4 B4 HX3 HX2 HSZ HCH HS3 HRS hz3 hz2
 go_wp2_with fail
 go_loopw [4,6] (fun s4 s6 wr=>TzR t r lo lo w Res s4 s6 wr) (fun _ s6 wr=>MUT t.length lo s6 wr)
 case atStart=>exact HTZ.out
 case round =>
  clear HTZ HR HT HE;obtain⟨f,acc,tk,σ',bx,rfl,hbx,hbl,hne,hown,h1,hch,hx,hmu,hacc,hres,hsz,htz,hnil⟩:=hrel;obtain⟨f,rfl⟩:∃f',f=f'+1:=⟨f-1,by omega⟩
  rw[Qde]at hres;have HMW:=Hi (MUT_of h1 hch hbx);have HS:=Hi h1;have hlt:=Qad hbx;have k0:wr.cell? ⟨bx,0,none⟩=some (.int .i64 tk.ty):=Qaa hbx rfl;have k1:wr.cell? ⟨bx,1,none⟩=some (.string tk.fn):=Qaa hbx rfl;have k2:wr.cell? ⟨bx,2,none⟩=some (.int .i64 tk.off):=Qaa hbx rfl;have k3:wr.cell? ⟨bx,3,none⟩=some (.int .i64 tk.ln):=Qaa hbx rfl;have k4:wr.cell? ⟨bx,4,none⟩=some (.int .i64 tk.col):=Qaa hbx rfl
  have k5:wr.cell? ⟨bx,5,none⟩=some (.string tk.tx):=Qaa hbx rfl;have HB:=Hi hbx;clear hbx;obtain⟨F,tb,off,pos,en,X⟩:=h1;have hblt:=X.sn.lt;have d0:=X.sn.c_er;have HX:=Hi X;clear X;have HXX:=Hi hx;clear hx;have HOWN:=Hi hown;clear hown;have HSZ:=Hi hsz;clear hsz;have HNIL:=Hi hnil;clear hnil;cases her:σ'.er with
  | true =>
   obtain⟨T,p,he,hke⟩:=HX.out.erk her;have HKE:=Hi hke;clear hke;rw[he]at d0;have HRES:Hid (Res=none):=Hi (by rw[←hres,if_pos her]);clear hres her he
   go_wp2_with fail
   go_quiet (fail)
   go_wp2_with fail
   go_ret2
   rw[HRES.out];refine⟨?_,T,⟨p,HKE.out⟩,rfl⟩;exact⟨HXX.out.os,HXX.out.tape,HXX.out.output,HXX.out.size,fun d hd hn=>HXX.out.block d hd (fun h=>h.elim hn (fun h=>by have:=HLO.out;omega)),HXX.out.ok⟩
  | false =>
   rw[HX.out.wf.er0 her]at d0;rw[if_neg (by rw[her];decide)]at hres;clear her;by_cases hty:tk.ty=0
   ·rw[if_pos hty]at hres
    have HRES:=Hi hres;clear hres;have q1:(tk.ty != 0)=false:=by simp[hty]
    have q2:(tk.ty==0)=true:=by simp[hty]
    have HTY:=Hi hty;clear hty;have d1:=HX.out.sn.c_pf;have d2:=HX.out.sn.c_po;have d3:=HX.out.sn.c_pl;have d4:=HX.out.sn.c_pc;rw[HX.out.wf.fpf]at d1;rw[HX.out.wf.fpo]at d2;rw[HX.out.wf.fpl]at d3;rw[HX.out.wf.fpc]at d4;have n0:∀j u,[.int .i64 0,.string ⟨#[]⟩,.int .i64 σ'.po,.int .i64 σ'.pl,.int .i64 σ'.pc,.string ⟨#[]⟩][j]? =some u→(wr.alloc (.cells #[.int .i64 0,.string ⟨#[]⟩,.int .i64 σ'.po,.int .i64 σ'.pl,.int .i64 σ'.pc,.string ⟨#[]⟩] 122)).cell? ⟨wr.heap.size,j,none⟩=some u:=by
     intro j u hj;exact Qaa (Xa _ _) (by simpa using hj)
    have hOa:=Qaj (S:=fun _=>False) HOWN.out (.below (Qab wr (.cells #[.int .i64 0,.string ⟨#[]⟩,.int .i64 σ'.po,.int .i64 σ'.pl,.int .i64 σ'.pc,.string ⟨#[]⟩] 122))) (fun _ h=>h.elim);have hSa:=HS.out.later (Qab wr (.cells #[.int .i64 0,.string ⟨#[]⟩,.int .i64 σ'.po,.int .i64 σ'.pl,.int .i64 σ'.pc,.string ⟨#[]⟩] 122));have HSA:=Hi hSa;clear hSa;have hlz:=HX.out.hlo;have hal:acc.length≤1000000:=by omega
    go_wp2_with(at_builtin;refine appG sl116 rfl _ _ rfl lo _ _ _ rfl hOa _ [.int .i64 0,.string ⟨#[]⟩,.int .i64 σ'.po,.int .i64 σ'.pl,.int .i64 σ'.pc,.string ⟨#[]⟩] rfl rfl n0 (fun v hv=>by simp at hv;rcases hv with rfl | rfl | rfl | rfl | rfl | rfl<;>rfl) (by unfold maxLen;omega) (by omega) (by simp;omega) ?_)
    intro v9 w9 hO9 hg9 hnn;have HO9:=Hi hO9;have HG9:=Hi hg9;have HOA:=Hi hOa;have HNN:=Hi hnn;clear hO9 hg9 hOa n0 hnn
    go_wp2_with fail
    go_ret2
    rw[←HRES.out];obtain⟨hw9,hv9⟩:=HO9.out;rcases hv9 with⟨hv,_⟩ | ⟨g,cap,cur,hv,hg1,hg2,hg3,hg4,hg5,hg6⟩
    ·exact absurd hv HNN.out
    ·have hxw:Ext (RS r.rb lo) w w9:=(HXX.out.alloc _).trans ((QaF HOA.out HG9.out).mono fun d hd=>.inr (Qa5 HOA.out hd).1)
     refine⟨⟨hxw.os,hxw.tape,hxw.output,hxw.size,fun d hd hn=>hxw.block d hd (fun h=>h.elim hn (fun h=>by have:=HLO.out;omega)),hxw.ok⟩,g,cap,?_,hg1,⟨cur,hg2,?_⟩,?_,?_⟩
     ·rw[hv,List.length_append]
      rfl
     ·rw[QeI,List.length_append]
      exact hg6
     ·intro k hk
      rcases List.mem_append.1 hk with hk | hk
      ·exact HSZ.out k hk
      ·rw[List.mem_singleton.1 hk];exact Nat.zero_le _
     ·rw[List.length_append]
      show acc.length+1≤_;omega
   ·rw[if_neg hty]at hres
    have HRES:=Hi hres;clear hres;have q1:(tk.ty != 0)=true:=by simp[hty]
    have q2:(tk.ty==0)=false:=by simp[hty]
    have HTY:=Hi hty;clear hty;have n0:∀j u,[.int .i64 tk.ty,.string tk.fn,.int .i64 tk.off,.int .i64 tk.ln,.int .i64 tk.col,.string tk.tx][j]? =some u→(wr.alloc (.cells tk.row 122)).cell? ⟨wr.heap.size,j,none⟩=some u:=by
     intro j u hj;exact Qaa (Xa _ _) (by simpa using hj)
    have hOa:=Qaj (S:=fun _=>False) HOWN.out (.below (Qab wr (.cells tk.row 122))) (fun _ h=>h.elim);have hSa:=HS.out.later (Qab wr (.cells tk.row 122));have HSA:=Hi hSa;clear hSa;have hlz:=HX.out.hlo;have hal:acc.length≤1000000:=by omega
    go_wp2_with(at_builtin;refine appG sl116 rfl _ _ rfl lo _ _ _ rfl hOa _ [.int .i64 tk.ty,.string tk.fn,.int .i64 tk.off,.int .i64 tk.ln,.int .i64 tk.col,.string tk.tx] rfl rfl n0 (fun v hv=>by simp at hv;rcases hv with rfl | rfl | rfl | rfl | rfl | rfl<;>rfl) (by unfold maxLen;omega) (by omega) (by simp;omega) ?_)
    intro v9 w9 hO9 hg9 hnn;have hb9:w9.heap[bx]? =some (.cells tk.row 122 (0,0)):=(hg9.block bx (by simp;omega) (fun e=>hne e.symm)).trans (Qaf HB.out _);have hs9:=HSA.out.grow hOa hg9;have hx9:Ext (RS r.rb lo) w w9:=(HXX.out.alloc _).trans ((QaF hOa hg9).mono fun d hd=>.inr (Qa5 hOa hd).1);have hz9:wr.heap.size<w9.heap.size:=by have:=hg9.size;simp at this;omega
    rw[show rows acc++[.int .i64 tk.ty,.string tk.fn,.int .i64 tk.off,.int .i64 tk.ln,.int .i64 tk.col,.string tk.tx]=rows (acc++[tk])from(QeI acc tk).symm]at hO9;clear hg9 hOa n0 k0 k1 k2 k3 k4 k5 d0 hblt hlt;have hlt:=Qad hb9;have k0:w9.cell? ⟨bx,0,none⟩=some (.int .i64 tk.ty):=Qaa hb9 rfl;have k1:w9.cell? ⟨bx,1,none⟩=some (.string tk.fn):=Qaa hb9 rfl;have k2:w9.cell? ⟨bx,2,none⟩=some (.int .i64 tk.off):=Qaa hb9 rfl
    have k3:w9.cell? ⟨bx,3,none⟩=some (.int .i64 tk.ln):=Qaa hb9 rfl;have k4:w9.cell? ⟨bx,4,none⟩=some (.int .i64 tk.col):=Qaa hb9 rfl;have k5:w9.cell? ⟨bx,5,none⟩=some (.string tk.tx):=Qaa hb9 rfl;have HB9:=Hi hb9;clear hb9;have HS9:=Hi hs9;clear hs9;have HX9:=Hi hx9;clear hx9;have HO9:=Hi hO9;clear hO9;have HNN:=Hi hnn;clear hnn
    go_upto_region 6 with(fail)
    refine Qba fun w10 hw10=>?_
    have hb10:w10.heap[w9.heap.size]? =some (.cells tk.row 122 (0,0)):=hw10▸Xa w9 _;have B10:Below w9.heap.size w9 w10:=hw10▸Qab w9 _;clear hw10;have h10:=HS9.out.later B10;have hX10:Ext (RS r.rb lo) w w10:=HX9.out.trans (.below B10);have hO10:=Qaj (S:=fun _=>False) HO9.out (.below B10) (fun _ h=>h.elim);have hob:v9.ownBlock≠some w9.heap.size:=fun e=>by have:=(Qa5 HO9.out e).2;obtain⟨c,hc⟩:=this;exact absurd (Qad hc) (Nat.lt_irrefl _)
    obtain⟨nb,hnb⟩:∃n,w9.heap.size=n:=⟨_,rfl⟩
    rw[hnb]at hb10 hob ⊢;have hnb0:lo≤nb:=by omega
    clear hnb B10 hlt k0 k1 k2 k3 k4 k5 HB9 HO9 HX9
    go_wp2_with fail
    refine(Qe5 h10 HL.out.hrb).mono ?_;rintro e w11⟨rfl,h11,F11⟩;have hm:=msr_next (t:=t) hch HTY.out;have hc11:=QcV (t:=t) (σ:=σ') (.inr hch);have hs11:=tokSz t (by omega) σ';have hb11:w11.heap[nb]? =some (.cells tk.row 122 (0,0)):=by
     rw[F11.block nb (Qad hb10) ?_]
     ·exact hb10
     ·rintro(h | h |⟨_,c,fr,hc⟩)
      ·have:=HL.out.hrb;omega
      ·rw[h]at hb10
       exact h10.tag _ _ hb10
      ·rw[hb10]at hc
       injection hc with hc
       injection hc with _ hc _
       exact absurd hc (by decide)
    have hO11:=F11.own hO10 HL.out.hrb h10.tag;have hX11:Ext (RS r.rb lo) w w11:=hX10.trans (F11.rs (Xb _));clear h10 F11 hO10 hX10 hb10;generalize Qa3 t σ'=n1 at *;obtain⟨tk1,σ2⟩:=n1;simp only at hm hc11 hs11 h11;have HM:=Hi hm;have HC11:=Hi hc11;have HS11:=Hi hs11;have H11:=Hi h11;have HB11:=Hi hb11;have HO11:=Hi hO11;have HX11:=Hi hX11;have hlt:=Qad hb11;clear hm hc11 hs11 h11 hO11 hX11;have k0:w11.cell? ⟨nb,0,none⟩=some (.int .i64 tk.ty):=Qaa hb11 rfl
    have k1:w11.cell? ⟨nb,1,none⟩=some (.string tk.fn):=Qaa hb11 rfl;have k2:w11.cell? ⟨nb,2,none⟩=some (.int .i64 tk.off):=Qaa hb11 rfl;have k3:w11.cell? ⟨nb,3,none⟩=some (.int .i64 tk.ln):=Qaa hb11 rfl;have k4:w11.cell? ⟨nb,4,none⟩=some (.int .i64 tk.col):=Qaa hb11 rfl;have k5:w11.cell? ⟨nb,5,none⟩=some (.string tk.tx):=Qaa hb11 rfl;have kf0:=Qae hb11 0;have kf1:=Qae hb11 1;have kf2:=Qae hb11 2;have kf3:=Qae hb11 3
    have kf4:=Qae hb11 4;have kf5:=Qae hb11 5;clear hb11
    go_wp2_with fail
    have hfin:=Qac (o:=5) (Qac (o:=4) (Qac (o:=3) (Qac (o:=2) (Qac (o:=1) (Qac (o:=0) HB11.out (.int .i64 tk1.ty)) (.string tk1.fn)) (.int .i64 tk1.off)) (.int .i64 tk1.ln)) (.int .i64 tk1.col)) (.string tk1.tx);have EK:=((((((Ext.refl (fun d=>d=nb) w11).setb 0 (.int .i64 tk1.ty)).setb 1 (.string tk1.fn)).setb 2 (.int .i64 tk1.off)).setb 3 (.int .i64 tk1.ln)).setb 4 (.int .i64 tk1.col)).setb 5 (.string tk1.tx)
    have hS:=H11.out.box HB11.out hnb0 EK;rw[HMW.out,MUT_of (tk:=tk1) hS HC11.out hfin];have hm:=HM.out;refine⟨⟨f,acc++[tk],tk1,σ2,nb,rfl,hfin,hnb0,hob,?_,hS,HC11.out,HX11.out.trans (EK.mono fun d h=>by subst h;exact .inr hnb0),by omega,?_,HRES.out,?_,HS11.out,fun e=>absurd e HNN.out⟩,hm⟩
    ·rw[List.length_append]
     exact own_ne HO11.out EK fun d hd h=>hob (by rw[hd,h])
    ·rw[List.length_append]
     show msr t tk1 σ2+(acc.length+1)<_;omega
    ·intro k hk
     rcases List.mem_append.1 hk with hk | hk
     ·exact HSZ.out k hk
     ·rw[List.mem_singleton.1 hk];exact htz
def BufR(rb lo:Nat)(w:World)(l:List UInt8):Prop :=
 ∃(d o n cap off:Nat)(lr:Int)(cur:Array Value)(T:TypeId)(fr:Nat×Nat),d≠rb∧d<lo∧w.heap[rb]? =some (.cells #[.slice (some ⟨d,o,none⟩) n cap,.int .i64 off,.int .i8 lr] 247 (0,0))∧n≤cap∧(n≤1000000∧cap≤maxLen)∧off+l.length=n∧w.heap[d]? =some (.cells cur T fr)∧o+n≤cur.size∧(cur.toList.drop (o+off)).take l.length=Lib.byteCells l
theorem QhS{rb n off cap:Nat}{lr:Int}{sl:Option Addr}{w:World}(hb:w.heap[rb]? =some (.cells #[.slice sl n cap,.int .i64 off,.int .i8 lr] 247 (0,0)))(hn:n≤1000000)(ho:off≤1000000) :
  Calls prog 341 #[.pointer (some ⟨rb,0,none⟩)] w fun e w'=>e=.returned (.bool (decide (n≤off)))∧∃k,w'=w.drewN k:=by
 have c0:w.cell? ⟨rb,0,none⟩=some (.slice sl n cap):=Qaa hb rfl;have c1:w.cell? ⟨rb,1,none⟩=some (.int .i64 off):=Qaa hb rfl;clear hb;go_enter func341,ntmps341
 go_wp2_with fail
 go_quiet (fail)
 go_wp2_with fail
 go_ret;exact⟨rfl,_,rfl⟩
theorem reset1_c{rb d o n off cap:Nat}{lr:Int}{w:World}(hb:w.heap[rb]? =some (.cells #[.slice (some ⟨d,o,none⟩) n cap,.int .i64 off,.int .i8 lr] 247 (0,0)))(hn:n≤cap)(hc:cap≤maxLen) :
  Calls prog 123 #[.pointer (some ⟨rb,0,none⟩)] w fun e w'=>e=.returned (.tuple #[])∧Ext (fun d=>d=rb) w w'∧w'.heap[rb]? =some (.cells #[.slice (some ⟨d,o,none⟩) 0 cap,.int .i64 0,.int .i8 0] 247 (0,0)):=by
 have c0:w.cell? ⟨rb,0,none⟩=some (.slice (some ⟨d,o,none⟩) n cap):=Qaa hb rfl;have c1:w.cell? ⟨rb,1,none⟩=some (.int .i64 off):=Qaa hb rfl;have c2:w.cell? ⟨rb,2,none⟩=some (.int .i8 lr):=Qaa hb rfl;have f0:=Qae hb 0;have f1:=Qae hb 1;have f2:=Qae hb 2;have hlt:=Qad hb;have HB:=Hi hb;clear hb;go_enter func123,ntmps123
 go_wp2_with fail
 go_end0
 exact⟨rfl,(((Ext.refl (fun d=>d=rb) w).setb 0 (.slice (some ⟨d,o,none⟩) 0 cap)).setb 1 (.int .i64 0)).setb 2 (.int .i8 0),Qac (o:=2) (Qac (o:=1) (Qac (o:=0) HB.out _) _) _⟩
theorem cells3{w:World}{rb:Nat}{a b c:Value}(hb:w.heap[rb]? =some (.cells #[a,b,c] 247 (0,0)))(v:Value):(w.setCell ⟨rb,2,none⟩ v).heap[rb]? =some (.cells #[a,b,v] 247 (0,0)):=Qac (o:=2) hb v
theorem QhT{rb lo:Nat}{w:World}(h:BufR rb lo w [])(b off n:Nat)(cap:Nat)(q:Value)(hn:n≠0)(h0:rb≠0)(hq:w.cell? ⟨0,0,none⟩=some q) :
  Calls prog 340 #[.pointer (some ⟨rb,0,none⟩),.slice (some ⟨b,off,none⟩) n cap] w fun e w'=>e=.returned (.tuple #[.int .i64 0,q])∧Ext (fun d=>d=rb) w w'∧BufR rb lo w' []:=by
 obtain⟨d,o,m,cp,of,lr,cur,T,fr,hd,hdl,hb,hmc,hcp,hof,hcur,hsz,hbytes⟩:=h;simp only[List.length_nil,Nat.add_zero]at hof;subst hof;have c2:w.cell? ⟨rb,2,none⟩=some (.int .i8 lr):=Qaa hb rfl;have f2:=Qae hb 2;have hlt:=Qad hb;have HB:=Hi hb;clear hb;go_enter func340,ntmps340
 go_upto_region 2 with(fail)
 have hb1:=cells3 HB.out (.int .i8 0);have E1:=(Ext.refl (fun d=>d=rb) w).setb 2 (.int .i8 0);refine Qba fun w1 hw1=>?_
 rw[←hw1]at hb1 E1;clear hw1 c2 f2;have hlt1:=Qad hb1;have HB1:=Hi hb1;clear hb1
 go_wp2_with fail
 refine(QhS HB1.out (by omega) (by omega)).mono ?_;rintro e w2⟨rfl,k,rfl⟩;have hb2:(w1.drewN k).heap[rb]? =_:=HB1.out;have E2:Ext (fun d=>d=rb) w (w1.drewN k):=E1.drewN k
 go_wp2_with fail
 refine(reset1_c hb2 hmc hcp.2).mono ?_;rintro e w3⟨rfl,E3,hb3⟩;have hq3:w3.cell? ⟨0,0,none⟩=some q:=(E2.trans E3).cell (p:=⟨0,0,none⟩) (fun e=>h0 e.symm) hq;have e1:((n:Int)==0)=false:=by simp[hn]
 go_wp2_with fail
 go_quiet (fail)
 go_wp2_with fail
 go_ret2
 have E4:=(E2.trans E3).drewN nq;refine⟨rfl,E4,d,o,0,cp,0,0,cur,T,fr,hd,hdl,hb3,Nat.zero_le _,⟨by omega,hcp.2⟩,rfl,E4.heap (fun e=>hd e) hcur,by omega,rfl⟩
theorem bsrc{l:List UInt8}{cur:List Value}{q:Nat}(h:(cur.drop q).take l.length=Lib.byteCells l){k j:Nat}{v:Value}(hj:(Lib.byteCells (l.take k))[j]? =some v):cur[q+j]? =some v:=by
 have e:Lib.byteCells (l.take k)=(Lib.byteCells l).take k:=by unfold Lib.byteCells;rw[List.map_take]
 rw[e,←h]at hj;obtain⟨hlt,hv⟩:=List.getElem?_eq_some_iff.1 hj;simp only[List.length_take]at hlt;rw[List.getElem?_take_of_lt (by omega),List.getElem?_take_of_lt (by omega),List.getElem?_drop]at hj;exact hj
theorem Qgt{rb lo:Nat}{w:World}{l:List UInt8}(h:BufR rb lo w l)(hl:l≠[])(b off n cap:Nat)(cur:Array Value)(T:TypeId)(hn:n≠0)(hn2:n≤2000)(hT:T≠348)(hrb:rb<lo)(hlb:lo≤b)(hb:w.heap[b]? =some (.cells cur T (0,0)))(hoff:off+n≤cur.size) :
  Calls prog 340 #[.pointer (some ⟨rb,0,none⟩),.slice (some ⟨b,off,none⟩) n cap] w (Got ⟨155,340,rb,BufR rb lo⟩ w l b off n cur T):=by
 have hl0:0<l.length:=List.length_pos_iff.2 hl;obtain⟨d,o,m,cp,of,lr,cu,T1,fr,hd,hdl,hr,hmc,hcp,hof,hcur,hsz,hbytes⟩:=h;obtain⟨k,hk⟩:∃k,Nat.min l.length n=k:=⟨_,rfl⟩
 have hk1:k≤l.length:=hk▸Nat.min_le_left _ _;have hk2:k≤n:=hk▸Nat.min_le_right _ _;have hk3:1≤k:=by rw[←hk];exact Nat.le_min.2 ⟨hl0,Nat.pos_of_ne_zero hn⟩
 have c2:w.cell? ⟨rb,2,none⟩=some (.int .i8 lr):=Qaa hr rfl;have f2:=Qae hr 2;have hlt:=Qad hr;have HB:=Hi hr;clear hr;have HBB:=Hi hb;clear hb;have HC:=Hi hcur;clear hcur;have HY:=Hi hbytes;clear hbytes;have HOF:=Hi hof;have HK:=Hi hk;clear hk;have HL:=Hi hl;clear hl;go_enter func340,ntmps340
 go_upto_region 2 with(fail)
 have hb1:=cells3 HB.out (.int .i8 0);have E1:=(Ext.refl (fun d=>d=rb) w).setb 2 (.int .i8 0);refine Qba fun w1 hw1=>?_
 rw[←hw1]at hb1 E1;clear hw1 c2 f2;have hlt1:=Qad hb1;have HB1:=Hi hb1;clear hb1
 go_wp2_with fail
 refine(QhS HB1.out (by omega) (by omega)).mono ?_;rintro e w2⟨rfl,dk,hw2⟩;have hb2:w2.heap[rb]? =some (.cells #[.slice (some ⟨d,o,none⟩) m cp,.int .i64 of,.int .i8 0] 247 (0,0)):=by rw[hw2];exact HB1.out
 have E2:Ext (fun d=>d=rb) w w2:=by rw[hw2];exact E1.drewN dk
 clear hw2 E1 HB1 hlt1 hlt;have hlt2:=Qad hb2;have c0:w2.cell? ⟨rb,0,none⟩=some (.slice (some ⟨d,o,none⟩) m cp):=Qaa hb2 rfl;have c1:w2.cell? ⟨rb,1,none⟩=some (.int .i64 of):=Qaa hb2 rfl;have hbb:w2.heap[b]? =some (.cells cur T (0,0)):=E2.heap (by omega) HBB.out;have hcc:w2.heap[d]? =some (.cells cu T1 fr):=E2.heap hd HC.out;have HB2:=Hi hb2;clear hb2;have e1:((n:Int)==0)=false:=by simp[hn]
 have e2:(decide (m≤of))=false:=by simp;omega
 have e3:¬m≤of:=by omega
 have g1:of≤m:=by omega
 have g2:m≤1000000:=by omega
 have g3:¬cp=of:=by omega
 have hcp2:(Builtin.copy_ #[78,78] 3 #[.slice (some ⟨b,off,none⟩) n cap,.slice (some ⟨d,o+of,none⟩) (m-of) (cp-of)]).run prog w2.drew=.ok (goInt (k:Int)) (w2.drew.setRow b (spl cur off (l.take k))):=by
  have hlen:(Lib.byteCells (l.take k)).length=k:=by rw[Lib.byteCells_length,List.length_take];omega
  have:=run_copy_row (P:=prog) w2.drew 78 78 3 5 b off n cap ⟨d,o+of,none⟩ (m-of) (cp-of) cur T (Lib.byteCells (l.take k)) Qhd Qhc hbb (by rw[hlen,←HK.out];congr 1;omega) (fun j v hj=>by
   rw[QcE];have:=bsrc HY.out hj;exact Qaa hcc (by simpa using this)) (by rw[hlen];omega) (Lib.byteCells_one _)
  rw[hlen]at this;rw[this];unfold spl;rw[List.length_take,show min k l.length=k by omega]
 have HBB2:=Hi hbb;clear hbb;have HCC2:=Hi hcc;clear hcc;clear HBB HC
 go_wp2_with fail
 refine QaK 10 (by kernel_rfl) (by kernel_rfl) ?_;simp only[List.take_succ_cons,List.take_zero,List.drop_succ_cons,List.drop_zero]
 repeat still_step
 refine wpStill_nil ?_
 go_upto_region 8 with(fail)
 refine Qba fun w3 hw3=>?_
 have hb3:w3.heap[b]? =some (.cells (spl cur off (l.take k)) T (0,0)):=hw3▸setRow_heap w2.drew b cur _ T (0,0) HBB2.out;have E3:Ext (fun x=>x=b) w2 w3:=hw3▸(Ext.refl (fun d=>d=b) w2).drew.trans (QdM w2.drew _ HBB2.out hT);clear hw3 hcp2 c0 c1 hlt2;have hr3:=E3.heap (by omega) HB2.out;have hc3:=E3.heap (by omega) HCC2.out;have c1:w3.cell? ⟨rb,1,none⟩=some (.int .i64 of):=Qaa hr3 rfl;have f1:=Qae hr3 1
 have c2:w3.cell? ⟨rb,2,none⟩=some (.int .i8 0):=Qaa hr3 rfl;have f2:=Qae hr3 2;have hlt3:=Qad hr3;have g5:(0:Int)<k:=by omega
 have g6:(of:Int)+(k:Int)≤2000000:=by omega
 have g7:IntKind.i64.wrap ((of:Int)+(k:Int))=((of+k:Nat):Int):=by
  rw[Int.natCast_add];unfold IntKind.wrap;simp[IntKind.bits];omega
 have HR3:=Hi hr3;clear hr3;have HC3:=Hi hc3;clear hc3;have HB3:=Hi hb3;clear hb3;have HE3:=Hi E3;clear E3
 go_wp2_with fail
 ·go_ret2
  have E4:Ext (fun d=>d=rb) w3 ((w3.setCell ⟨rb,1,none⟩ (.int .i64 ((of:Int)+(k:Int)))).setCell ⟨rb,2,none⟩ (.int .i8 (-1))):=((Ext.refl (fun d=>d=rb) w3).setb 1 _).setb 2 _;have hE:=(E2.mono (S':=fun x=>x=rb∨x=b) fun x h=>.inl h).trans ((HE3.out.mono fun x h=>.inr h).trans (E4.mono fun x h=>.inl h));refine⟨k,hk3,hk2,hk1,rfl,E4.heap (by omega) HB3.out,hE,d,o,m,cp,of+k,-1,cu,T1,fr,hd,hdl,?_,hmc,hcp,?_,E4.heap hd HC3.out,hsz,?_⟩
  ·rw[Int.natCast_add]
   exact Qac (o:=2) (Qac (o:=1) HR3.out _) _
  ·rw[List.length_drop];omega
  ·have e:Lib.byteCells (l.drop k)=(Lib.byteCells l).drop k:=by unfold Lib.byteCells;rw[List.map_drop]
   rw[e,←HY.out,List.length_drop,List.drop_take,List.drop_drop];rw[Nat.add_assoc]
def bufRdr(rb lo:Nat):Rdr:=⟨155,340,rb,BufR rb lo⟩
theorem bufLaw{rb lo:Nat}(hrb:rb<lo)(h15:15≤rb):RdLaw (bufRdr rb lo) lo where
 hrb:=hrb
 h15:=h15
 ahead:=fun w=>by
  show(nilAhead 580 155 (.pointer (some ⟨rb,0,none⟩)) "Read").run prog w=_
  kernel_rfl
 meth:=fun w=>by
  show(Go.method 580 155 (.pointer (some ⟨rb,0,none⟩)) "Read").run prog w=_
  kernel_rfl
 ent:=fun args w=>by
  show(callFunc 340 args).run prog w=_
  kernel_rfl
 keep:=fun w w' l h he=>by
  obtain⟨d,o,m,cp,of,lr,cu,T1,fr,hd,hdl,hr,hmc,hcp,hof,hcur,hsz,hbytes⟩:=h;exact⟨d,o,m,cp,of,lr,cu,T1,fr,hd,hdl,he.heap (Nat.not_le.2 hrb) hr,hmc,hcp,hof,he.heap (Nat.not_le.2 hdl) hcur,hsz,hbytes⟩
 atEnd:=fun w b off n cap q h hn hq=>(QhT h b off n cap q hn (by omega) hq)
 more:=fun w l b off n cap cur T h hl hn hn2 _ _ hT hb hc ho=>Qgt h hl b off n cap cur T hn hn2 hT hrb hb hc ho
theorem newbuf_c(w:World)(a:Option Addr)(n cap:Nat):Calls prog 61 #[.slice a n cap] w fun e w'=>e=.returned (.pointer (some ⟨w.heap.size,0,none⟩))∧w'=w.alloc (.cells #[.slice a n cap,.int .i64 0,.int .i8 0] 247):=by
 go_enter func61,ntmps61
 go_wp2_with fail
 go_ret;exact⟨rfl,rfl⟩
theorem TzP.low{t:List UInt8}{rb lo lo':Nat}{w0 w1 w':World}{Res:Option (List Tok)}{e:Ending}(h:TzP (t:=t) rb lo w1 Res e w')(hx:Ext (fun d=>d=rb) w0 w1)(hl:lo'≤lo):TzP (t:=t) rb lo' w0 Res e w':=by
 obtain⟨h1,h2⟩:=h;refine⟨hx.trans h1,?_⟩;cases Res with
 | none=>exact h2
 | some ts =>
  obtain⟨g,cap,he,hg,hr⟩:=h2;exact⟨g,cap,he,Xe hl hg,hr⟩
theorem tokz_c{t:List UInt8}{w:World}{d o n cap:Nat}{cu:Array Value}{T:TypeId}{fr:Nat×Nat}(hc:w.heap[d]? =some (.cells cu T fr))(hsz:o+n≤cu.size)(hb:(cu.toList.drop o).take t.length=Lib.byteCells t)(hn:t.length=n)(hl:n≤900000)(hnc:n≤cap)(hcap:cap≤maxLen)
  (hT:Lib.Utf8Tabs 1 2 w)(hE:∃a,w.cell? ⟨0,0,none⟩=some (.iface 346 (.pointer (some a))))(h15:15≤w.heap.size) :
  Calls prog 46 #[.slice (some ⟨d,o,none⟩) n cap] w (TzP (t:=t) w.heap.size w.heap.size w (toks t)):=by
 have hlt:=Qad hc;have HB:=Hi hb;clear hb;go_enter func46,ntmps46
 go_wp2_with fail
 refine(newbuf_c w _ _ _).mono ?_;rintro e w1⟨rfl,hw1⟩;have hb1:w1.heap[w.heap.size]? =some (.cells #[.slice (some ⟨d,o,none⟩) n cap,.int .i64 0,.int .i8 0] 247 (0,0)):=hw1▸Xa w _;have B1:Below w.heap.size w w1:=hw1▸Qab w _;have hz1:w1.heap.size=w.heap.size+1:=by rw[hw1];simp
 clear hw1;have X1:Ext (fun d=>d=w.heap.size) w w1:=.below B1;have hR1:(bufRdr w.heap.size w1.heap.size).R w1 t:=⟨d,o,n,cap,0,0,cu,T,fr,by omega,by omega,hb1,hnc,⟨by omega,hcap⟩,by omega,X1.heap (by omega) hc,hsz,HB.out⟩;have hT1:=Qbg hT X1 (by omega) (by omega);have hE1:∃a,w1.cell? ⟨0,0,none⟩=some (.iface 346 (.pointer (some a))):=by
  obtain⟨a,ha⟩:=hE;exact⟨a,X1.cell (p:=⟨0,0,none⟩) (show ¬(0=w.heap.size)by omega) ha⟩
 go_wp2_with fail
 refine(Qgs hR1 hT1 hE1 (by omega) (by omega) (bufLaw (by omega) h15)).mono ?_;rintro e w2 h2;replace h2:=TzP.low h2 X1 (show w.heap.size≤w1.heap.size by omega);have H2:=Hi h2;generalize toks t=Res at *;cases Res with
 | none =>
  obtain⟨hx,T',p,rfl⟩:=h2;clear hx
  go_wp2_with fail
  go_ret2
  exact H2.out
 | some ts =>
  obtain⟨hx,g,cp,rfl,hr⟩:=h2;clear hx hr
  go_wp2_with fail
  go_ret2
  exact H2.out
theorem newp_c(w:World)(a:Option Addr)(n cap:Nat):Calls prog 52 #[.slice a n cap] w fun e w'=>e=.returned (.agg #[.slice a n cap,.int .i64 0])∧Below w.heap.size w w':=by
 go_enter func52,ntmps52
 go_wp2_with fail
 exact bodyPost_ret (Qao (a:=2) (t:=142) (by kernel_rfl) _ ⟨w.heap.size,0,none⟩ rfl _ _ (QeP _ _ _ _ _ (by kernel_rfl) (by kernel_rfl) (Qaa (o:=0) (Xa w _) rfl) (Qaa (o:=1) (Xa w _) rfl))) rfl ⟨rfl,Qab w _⟩
theorem QfH:∀(ts:List Tok)(i j:Nat)(t:Tok)(v:Value),ts[i]? =some t→j<6→t.row[j]? =some v→(rows ts)[i*6+j]? =some v
 | [],i,j,t,v,h,_,_=>by simp at h
 | k::ts,0,j,t,v,h,hj,hv=>by
  simp at h;subst h;have hsz:k.row.toList.length=6:=rfl;rw[show rows (k::ts)=k.row.toList++rows ts from rfl,List.getElem?_append_left (by omega)];simpa using hv
 | k::ts,i+1,j,t,v,h,hj,hv=>by
  have hsz:k.row.toList.length=6:=rfl;rw[show rows (k::ts)=k.row.toList++rows ts from rfl,List.getElem?_append_right (by omega),hsz,show(i+1)*6+j-6=i*6+j by omega];exact QfH ts i j t v (by simpa using h) hj hv
theorem QhU{w:World}{g:Nat}{cur:Array Value}{ts:List Tok}(hg:w.heap[g]? =some (.cells cur 122 (0,0)))(hr:cur.toList.take (ts.length*6)=rows ts)(hs:∀k∈ts,k.tx.size≤1000000)(i:Nat)(t:Tok)(hi:ts[i]? =some t):TokAt w g (i*6) t:=by
 have hlt:=(List.getElem?_eq_some_iff.1 hi).1;have hc:∀j v,j<6→t.row[j]? =some v→w.cell? ⟨g,i*6+j,none⟩=some v:=fun j v hj hv=>by
  have h:=QfH ts i j t v hi hj hv;rw[←hr,List.getElem?_take_of_lt (by omega)]at h;exact Qaa hg (by simpa using h)
 exact⟨hc 0 _ (by decide) rfl,hc 1 _ (by decide) rfl,hc 2 _ (by decide) rfl,hc 3 _ (by decide) rfl,hc 4 _ (by decide) rfl,hc 5 _ (by decide) rfl,hs t (List.mem_of_getElem? hi)⟩
theorem QfI(t:List UInt8):∀(f:Nat)(acc:List Tok)(p:Tok×Sc)(ts:List Tok),Qde t f acc p=some ts→∃l σ,ts=l++[Qf4 σ]
 | 0,acc,p,ts,h=>by cases h
 | f+1,acc,p,ts,h=>by
  rw[Qde]at h;split at h
  ·cases h
  ·split at h
   ·cases h;exact⟨acc,p.2,rfl⟩
   ·exact QfI t f _ _ ts h
theorem QfJ:(⟨#[]⟩:ByteArray).toList=[]:=by
 first
 | rfl
 | decide
 | (unfold ByteArray.toList;unfold ByteArray.toList.loop;simp[ByteArray.size])
theorem QhV(σ:Sc):∀l:List Tok,Wf (l++[Qf4 σ])
 | []=>⟨rfl,QfJ⟩
 | [_]=>⟨rfl,QfJ⟩
 | _::b::l=>QhV σ (b::l)
theorem QhW{t:List UInt8}{ts:List Tok}(h:toks t=some ts):Wf ts:=by
 obtain⟨l,σ,rfl⟩:=QfI t _ _ _ _ h;exact QhV σ l
def pol0:Array Value:=#[.bool false,.slice none 0 0,.nilIface,.nilIface,.nilIface,.slice none 0 0,.string ⟨#[]⟩,.int .i64 0,.int .i64 0,.int .i64 0]
structure Itk where
 kd:Int
 tx:ByteArray
 off:Int
 ln:Int
 col:Int
def Itk.row(k:Itk):List Value:=[.int .i64 k.kd,.string k.tx,.int .i64 k.off,.int .i64 k.ln,.int .i64 k.col]
def Qjm(l:List Itk):List Value:=l.flatMap Itk.row
theorem Qjw(l:List Itk)(k:Itk):Qjm (l++[k])=Qjm l++k.row:=by unfold Qjm;rw[List.flatMap_append];simp
theorem QjH:∀(l:List Itk)(i j:Nat)(t:Itk)(v:Value),l[i]? =some t→j<5→t.row[j]? =some v→(Qjm l)[i*5+j]? =some v
 | [],i,j,t,v,h,_,_=>by simp at h
 | k::l,0,j,t,v,h,hj,hv=>by
  simp at h;subst h;have hsz:k.row.length=5:=rfl;rw[show Qjm (k::l)=k.row++Qjm l from rfl,List.getElem?_append_left (by omega)];simpa using hv
 | k::l,i+1,j,t,v,h,hj,hv=>by
  have hsz:k.row.length=5:=rfl;rw[show Qjm (k::l)=k.row++Qjm l from rfl,List.getElem?_append_right (by omega),hsz,show(i+1)*5+j-5=i*5+j by omega];exact QjH l i j t v (by simpa using h) hj hv
def ItIs(w:World)(p:Option Addr)(l:List Itk):Prop:=l=[]∨∃g c,p=some ⟨g,0,none⟩∧w.heap[g]? =some (.cells c 76 (0,0))∧c.toList.take (l.length*5)=Qjm l
theorem ItIs.below{w w':World}{p:Option Addr}{l:List Itk}(h:ItIs w p l)(hb:Below w.heap.size w w'):ItIs w' p l :=
 h.imp id fun⟨g,c,h1,h2,h3⟩=>⟨g,c,h1,Bk hb h2,h3⟩
theorem ItIs.cell{w:World}{p:Option Addr}{l:List Itk}(h:ItIs w p l){i:Nat}{t:Itk}(hi:l[i]? =some t):∃g,p=some ⟨g,0,none⟩∧w.cell? ⟨g,i*5,none⟩=some (.int .i64 t.kd)∧w.cell? ⟨g,i*5+1,none⟩=some (.string t.tx)∧w.cell? ⟨g,i*5+2,none⟩=some (.int .i64 t.off):=by
 rcases h with rfl | ⟨g,c,h1,h2,h3⟩
 ·simp at hi
 ·have hlt:=(List.getElem?_eq_some_iff.1 hi).1
  have hc:∀j v,j<5→t.row[j]? =some v→w.cell? ⟨g,i*5+j,none⟩=some v:=fun j v hj hv=>by
   have h:=QjH l i j t v hi hj hv;rw[←h3,List.getElem?_take_of_lt (by omega)]at h;exact Qaa h2 (by simpa using h)
  exact⟨g,h1,hc 0 _ (by decide) rfl,hc 1 _ (by decide) rfl,hc 2 _ (by decide) rfl⟩
theorem Qka{w:World}{base:Nat}{v:Value}{l:List Itk}(h:w.ownsRow base 76 5 v l.length (Qjm l)):∃p cap,v=.slice p l.length cap∧l.length≤cap∧cap≤maxLen∧ItIs w p l:=by
 rcases h.2 with⟨rfl,h0⟩ | ⟨g,cap,cur,rfl,h1,h2,h3,h4,h5,h6⟩
 ·have:l=[]:=List.length_eq_zero_iff.1 h0
  subst this;exact⟨none,0,rfl,Xb _,Nat.zero_le _,.inl rfl⟩
 ·exact⟨_,cap,rfl,h3,h4,.inr ⟨g,cur,rfl,h2,h6⟩⟩
theorem sl72:SlT prog 72 76 (.agg #[.int .i64 0,.string ⟨#[]⟩,.int .i64 0,.int .i64 0,.int .i64 0]) 5 48:=⟨by kernel_rfl,⟨Tryz.t76,by kernel_rfl,by kernel_rfl,by kernel_rfl,by kernel_rfl⟩,rfl,by decide⟩
def CutP(w:World)(s:ByteArray)(e:Ending)(w':World):Prop:=Below w.heap.size w w'∧∃(l:List Itk)(p:Option Addr)(cap:Nat)(k:Bool),e=.returned (.tuple #[.slice p l.length cap,.bool k])∧l.length≤s.size+1∧l.length≤cap∧cap≤maxLen∧ItIs w' p l
theorem QjI{w w':World}{s:ByteArray}(hB:Below w.heap.size w w'):CutP w s (.returned (.tuple #[.slice none 0 0,.bool false])) w':=⟨hB,[],none,0,false,rfl,Nat.zero_le _,Xb _,Nat.zero_le _,.inl rfl⟩
def CutR(w:World)(s:ByteArray)(b:Nat)(s4:Value)(wr:World):Prop:=∃(l:List Itk)(q:Nat),wr.ownsRow (b+1) 76 5 s4 l.length (Qjm l)∧Scn wr b s q∧l.length≤q∧Below w.heap.size w wr∧w.heap.size≤b∧b<wr.heap.size
theorem cut_c(s:ByteArray)(hs:s.size≤3000)(w:World)(hT:Lib.Utf8Tabs 1 2 w)(h15:15≤w.heap.size):Calls prog 42 #[.string s] w (CutP w s):=by
 have HT:=Hi (fun(w':World)(he:Below w.heap.size w w')=>Qbg hT (Ext.below (S:=fun _=>False) he) (fun h=>h) (fun h=>h));clear hT;go_enter func42,ntmps42
 go_upto_block 0 with(fail)
 refine Qba fun w1 hw1=>?_
 have H1:Hid (CutR w s w.heap.size (.slice none 0 0) w1):=Hi ⟨[],0,World.ownsRow_nil _ _ _ _,⟨Nat.zero_le _,1,1,hw1▸Xa w _⟩,Xb _,hw1▸Qab w _,Xb _,by rw[hw1];simp⟩;clear hw1;generalize hbb:w.heap.size=b at *
 go_wp2_with fail
 go_loopw [4] (fun s4 wr=>CutR w s b s4 wr) (fun _ wr=>s.size-atW b wr)
 case atStart=>exact H1.out
 case round =>
  clear H1;obtain⟨l,q,ho,hS,hlq,hB,hbw,hbl⟩:=hrel;have hqa:=hS.atW;have HO:=Hi ho;clear ho;have HS:=Hi hS;clear hS;have HB:=Hi hB;clear hB
  go_wp2_with fail
  refine(blanks_c HS.out (HT.out _ (hbb▸HB.out)) hs (by omega)).mono ?_;rintro e w2⟨⟨k,rfl⟩,q2,hP2⟩;have hbl2:b<w2.heap.size:=Nat.lt_of_lt_of_le hbl hP2.2.2.size;have hO2:=Qaj HO.out hP2.2.2 (fun d hd=>by omega);have hB2:Below w.heap.size w w2:=HB.out.trans (hP2.2.2.toBelow (B:=w.heap.size) (fun d hd=>by omega) (by omega));have HP2:=Hi hP2;have hqq:=hP2.2.1;have HO2:=Hi hO2;have HB2:=Hi hB2;clear hP2 hO2 hB2 HO HS HB
  cases k with
  | false =>
   go_wp2_with fail
   go_ret2
   exact QjI HB2.out
  | true =>
   obtain⟨⟨hqs,ln,col,hbk⟩,_⟩:=HP2.out;have c1:w2.cell? ⟨b,1,none⟩=some (.int .i64 q2):=Qaa hbk rfl;have c2:w2.cell? ⟨b,2,none⟩=some (.int .i64 ln):=Qaa hbk rfl;have c3:w2.cell? ⟨b,3,none⟩=some (.int .i64 col):=Qaa hbk rfl;clear hbk
   go_wp2_with fail
   go_region
   generalize hw3:(w2.alloc (.cells #[.int .i64 0,.string ⟨#[]⟩,.int .i64 q2,.int .i64 ln,.int .i64 col] 76 (0,0))).drew=w3;replace hw3:=hw3.symm;have hb3:w3.heap[w2.heap.size]? =some (.cells #[.int .i64 0,.string ⟨#[]⟩,.int .i64 q2,.int .i64 ln,.int .i64 col] 76 (0,0)):=by rw[hw3];exact Xa w2 _
   have B23:Below w2.heap.size w2 w3:=by rw[hw3];exact(Ext.toBelow ((Ext.below (S:=fun _=>False) (Qab w2 _)).drew) (fun _ h=>h.elim) (Xb _))
   have hz3:w2.heap.size<w3.heap.size:=by rw[hw3];show _<(w2.alloc _).heap.size;simp
   clear hw3 c1 c2 c3;have HO3:=Hi (Qaj (S:=fun _=>False) HO2.out (.below B23) (fun _ h=>h.elim));have HG4:Hid (∀d,Value.ownBlock u4=some d→d<w2.heap.size):=Hi (fun d hd=>by obtain⟨_,c,hc⟩:=Qa5 HO2.out hd;exact Qad hc);have HP3:=Hi (HP2.out.below B23);have HB3:=Hi (HB2.out.trans (B23.mono HB2.out.size));generalize htb:w2.heap.size=tb at *;clear B23 HO2 HP2;obtain⟨⟨_,ln3,col3,hbk⟩,_⟩:=HP3.out;have c1:w3.cell? ⟨b,1,none⟩=some (.int .i64 q2):=Qaa hbk rfl
   clear hbk;have HB3k:=Hi hb3;by_cases hend:q2=s.size
   ·subst hend
    have k0:w3.cell? ⟨tb,0,none⟩=some (.int .i64 0):=Qaa hb3 rfl;have k1:w3.cell? ⟨tb,1,none⟩=some (.string ⟨#[]⟩):=Qaa hb3 rfl;have k2:w3.cell? ⟨tb,2,none⟩=some (.int .i64 s.size):=Qaa hb3 rfl;have k3:w3.cell? ⟨tb,3,none⟩=some (.int .i64 ln):=Qaa hb3 rfl;have k4:w3.cell? ⟨tb,4,none⟩=some (.int .i64 col):=Qaa hb3 rfl;clear hb3;have n0:∀j u,[.int .i64 0,.string ⟨#[]⟩,.int .i64 s.size,.int .i64 ln,.int .i64 col][j]? =some u→(w3.alloc (.cells #[.int .i64 0,.string ⟨#[]⟩,.int .i64 s.size,.int .i64 ln,.int .i64 col] 76)).cell? ⟨w3.heap.size,j,none⟩=some u:=by
     intro j u hj;exact Qaa (Xa _ _) (by simpa using hj)
    have hOa:=Qaj (S:=fun _=>False) HO3.out (.below (Qab w3 (.cells #[.int .i64 0,.string ⟨#[]⟩,.int .i64 s.size,.int .i64 ln,.int .i64 col] 76))) (fun _ h=>h.elim)
    go_upto_region 7 with(fail)
    go_wp2_with(at_builtin;refine appG sl72 rfl _ _ rfl (b+1) _ _ _ rfl hOa _ [.int .i64 0,.string ⟨#[]⟩,.int .i64 s.size,.int .i64 ln,.int .i64 col] rfl rfl n0 (fun v hv=>by simp at hv;rcases hv with rfl | rfl | rfl | rfl | rfl<;>rfl) (by unfold maxLen;omega) (by omega) (by simp;omega) ?_)
    intro v9 w9 hO9 hg9 hnn;have HO9:=Hi hO9;have HG9:=Hi hg9;have HOA:=Hi hOa;clear hO9 hg9 hOa n0 hnn
    go_wp2_with fail
    go_ret2
    have hO:w9.ownsRow (b+1) 76 5 v9 (l++[(⟨0,⟨#[]⟩,s.size,ln,col⟩:Itk)]).length (Qjm (l++[(⟨0,⟨#[]⟩,s.size,ln,col⟩:Itk)])):=by rw[Qjw,List.length_append];exact HO9.out
    obtain⟨p,cap,rfl,h1,h2,h3⟩:=Qka hO;have hX:Ext (fun _=>False) w w9:=((Ext.below HB3.out).alloc (.cells #[.int .i64 0,.string ⟨#[]⟩,.int .i64 s.size,.int .i64 ln,.int .i64 col] 76)).grow HOA.out HG9.out (by omega);exact⟨hX.toBelow (fun _ h=>h.elim) (Xb _),_,p,cap,true,rfl,by rw[List.length_append];show l.length+1≤_;omega,h1,h2,h3⟩
   ·have hlt:q2<s.size:=by omega
    have h1:¬(q2:Int)=(s.size:Int):=by omega
    clear hb3
    go_wp2_with fail
    refine(nextr_c HP3.out.1 (HT.out _ (hbb▸HB3.out)) hs (by omega) hlt).mono ?_;rintro e w4⟨n4,k,q4,rfl,hP4,hq4⟩;have hb4:=hP4.2.2.heap (show ¬tb=b by omega) HB3k.out;have HO4:=Hi (Qaj HO3.out hP4.2.2 (fun d hd=>by omega));have HB4:Hid (Below w.heap.size w w4):=Hi (HB3.out.trans (hP4.2.2.toBelow (B:=w.heap.size) (fun d hd=>by omega) (by omega)));have HP4:=Hi hP4;have hz4:=hP4.2.2.size;clear hP4 c1 HO3 HB3
    cases k with
    | false =>
     clear hb4
     go_wp2_with fail
     go_ret2
     exact QjI HB4.out
    | true =>
     have hq5:=hq4 rfl;clear hq4;obtain⟨⟨hqs4,ln4,col4,hbk⟩,_⟩:=HP4.out;have c1:w4.cell? ⟨b,1,none⟩=some (.int .i64 q4):=Qaa hbk rfl;have k0:w4.cell? ⟨tb,0,none⟩=some (.int .i64 0):=Qaa hb4 rfl;have k1:w4.cell? ⟨tb,1,none⟩=some (.string ⟨#[]⟩):=Qaa hb4 rfl;have k2:w4.cell? ⟨tb,2,none⟩=some (.int .i64 q2):=Qaa hb4 rfl;have f0:=Qae hb4 0;have f1:=Qae hb4 1;clear hbk;have HB4k:=Hi hb4;clear hb4
     go_wp2_with fail
     go_region
     generalize hw5:((w4.setCell ⟨tb,0,none⟩ (.int .i64 n4)).setCell ⟨tb,1,none⟩ (.string (s.extract q2 q4))).drew=w5;replace hw5:=hw5.symm;have hb5:w5.heap[tb]? =some (.cells #[.int .i64 n4,.string (s.extract q2 q4),.int .i64 q2,.int .i64 ln,.int .i64 col] 76 (0,0)):=by
      have:=Qac (o:=1) (Qac (o:=0) HB4k.out (.int .i64 n4)) (.string (s.extract q2 q4));rw[hw5];exact this.trans (by simp)
     have hX5:Ext (fun d=>d=tb) w4 w5:=by rw[hw5];exact(((Ext.refl (fun d=>d=tb) w4).setb 0 _).setb 1 _).drew
     clear hw5 k0 k1 k2 f0 f1 c1;have hO5:=own_ne HO4.out hX5 (fun d hd=>by have:=HG4.out d hd;omega);have HP5:=Hi (HP4.out.1.ext hX5 (show ¬b=tb by omega));have HB5:Hid (Below w.heap.size w w5):=Hi (HB4.out.trans (hX5.toBelow (B:=w.heap.size) (fun d hd=>by omega) (by omega)));have hz5:=hX5.size;clear hX5 HP4 HB4 HB4k;have k0:w5.cell? ⟨tb,0,none⟩=some (.int .i64 n4):=Qaa hb5 rfl;have k1:w5.cell? ⟨tb,1,none⟩=some (.string (s.extract q2 q4)):=Qaa hb5 rfl
     have k2:w5.cell? ⟨tb,2,none⟩=some (.int .i64 q2):=Qaa hb5 rfl;have k3:w5.cell? ⟨tb,3,none⟩=some (.int .i64 ln):=Qaa hb5 rfl;have k4:w5.cell? ⟨tb,4,none⟩=some (.int .i64 col):=Qaa hb5 rfl;clear hb5;have n0:∀j u,[.int .i64 n4,.string (s.extract q2 q4),.int .i64 q2,.int .i64 ln,.int .i64 col][j]? =some u→(w5.alloc (.cells #[.int .i64 n4,.string (s.extract q2 q4),.int .i64 q2,.int .i64 ln,.int .i64 col] 76)).cell? ⟨w5.heap.size,j,none⟩=some u:=by
      intro j u hj;exact Qaa (Xa _ _) (by simpa using hj)
     have hOa:=Qaj (S:=fun _=>False) hO5 (.below (Qab w5 (.cells #[.int .i64 n4,.string (s.extract q2 q4),.int .i64 q2,.int .i64 ln,.int .i64 col] 76))) (fun _ h=>h.elim)
     go_wp2_with(at_builtin;refine appG sl72 rfl _ _ rfl (b+1) _ _ _ rfl hOa _ [.int .i64 n4,.string (s.extract q2 q4),.int .i64 q2,.int .i64 ln,.int .i64 col] rfl rfl n0 (fun v hv=>by simp at hv;rcases hv with rfl | rfl | rfl | rfl | rfl<;>rfl) (by unfold maxLen;omega) (by omega) (by simp;omega) ?_)
     intro v9 w9 hO9 hg9 hnn;have hXg:=(QaF hOa hg9).mono (S':=fun d=>b+1≤d) (fun d hd=>(Qa5 hOa hd).1);have hO:w9.ownsRow (b+1) 76 5 v9 (l++[(⟨n4,s.extract q2 q4,q2,ln,col⟩:Itk)]).length (Qjm (l++[(⟨n4,s.extract q2 q4,q2,ln,col⟩:Itk)])):=by rw[Qjw,List.length_append];exact hO9
     have hX9:Ext (fun d=>b+1≤d) w5 w9:=((Ext.refl _ _).alloc _).trans hXg;have hS9:=HP5.out.ext hX9 (show ¬b+1≤b by omega);have HO9:=Hi hO;have hqa9:=hS9.atW;have HS9:=Hi hS9;have HB9:Hid (Below w.heap.size w w9):=Hi (HB5.out.trans (hX9.toBelow (B:=w.heap.size) (fun d hd=>by omega) (by omega)));have hz9:=hX9.size;clear hO9 hg9 hnn n0 hOa hO hS9 hX9 hXg k0 k1 k2 k3 k4 hO5
     go_wp2_with fail
     go_roundw
     case rel=>exact⟨_,q4,HO9.out,HS9.out,by rw[List.length_append];show l.length+1≤_;omega,HB9.out,by omega,by omega⟩
     case measure=>omega
theorem few_c(w:World)(l:List Itk)(p:Option Addr)(cap:Nat)(h:ItIs w p l)(hl:l.length≤5000)(hc:l.length≤cap):Calls prog 43 #[.slice p l.length cap] w (Qkj (fun _=>True) w):=by
 have HH:=Hi h;clear h;go_enter func43,ntmps43
 go_wp2_with fail
 go_loopw [3,4] (fun s3 s4 wr=>∃n k:Nat,s3=.int .i64 n∧s4=.int .i64 k∧n≤4∧k≤l.length∧wr=w) (fun _ s4 _=>l.length-(intOf s4).toNat)
 case atStart=>exact⟨0,0,rfl,rfl,by decide,Nat.zero_le _,rfl⟩
 case round =>
  obtain⟨n,k,rfl,rfl,hn,hk,rfl⟩:=hrel;by_cases hkl:k<l.length
  ·have h1:(k:Int)<(l.length:Int):=by omega
   obtain⟨t,ht⟩:∃t,l[k]? =some t:=⟨l[k],by simp[hkl]⟩
   obtain⟨g,rfl,c0,c1,_⟩:=HH.out.cell ht
   go_wp2_with fail
   all_goals first
    | (go_ret;exact⟨⟨_,rfl,trivial⟩,rfl⟩)
    | exact⟨⟨n+1,k+1,rfl,rfl,by omega,by omega,trivial⟩,by simp[intOf];omega⟩
    | exact⟨⟨0,k+1,rfl,rfl,by decide,by omega,trivial⟩,by simp[intOf];omega⟩
  ·have h1:¬(k:Int)<(l.length:Int):=by omega
   go_wp2_with fail
   go_ret;exact⟨⟨_,rfl,trivial⟩,rfl⟩
theorem Qkl(s:ByteArray)(hs:s.size≤3000)(w:World):Calls prog 57 #[.string s] w (Qkj (fun _=>True) w):=by
 go_enter func57,ntmps57
 go_wp2_with fail
 go_loopw [3] (fun s3 wr=>∃k:Nat,s3=.int .i64 k∧k≤s.size∧wr=w) (fun s3 _=>s.size-(intOf s3).toNat)
 case atStart=>exact⟨0,rfl,Nat.zero_le _,rfl⟩
 case round =>
  obtain⟨k,rfl,hk,rfl⟩:=hrel;by_cases hkl:k+3<s.size
  ·have h1:(k:Int)+3<(s.size:Int):=by omega
   cases hb0:(((s[k]'(by omega)).toNat:Int) != 92)with
   | true=>go_wp2_with fail;exact⟨⟨k+1,rfl,by omega,trivial⟩,by simp[intOf];omega⟩
   | false =>
   cases hb1:(((s[k+1]'(by omega)).toNat:Int) != 117)with
   | true=>go_wp2_with fail;exact⟨⟨k+1,rfl,by omega,trivial⟩,by simp[intOf];omega⟩
   | false =>
   cases hb2:(((s[k+2]'(by omega)).toNat:Int) != 123)with
   | true=>go_wp2_with fail;exact⟨⟨k+1,rfl,by omega,trivial⟩,by simp[intOf];omega⟩
   | false =>
   go_wp2_with fail
   go_loopw [4,5,6] (fun s4 s5 _ wq=>∃(n:Int)(j:Nat),s4=.int .i64 n∧s5=.int .i64 j∧0≤n∧n≤20000000000∧j≤s.size∧wq=wr) (fun _ s5 _ _=>s.size-(intOf s5).toNat)
   case atStart=>exact⟨0,k+3,rfl,rfl,by decide,by decide,by omega,rfl⟩
   case round =>
    obtain⟨n,j,rfl,rfl,hn0,hn1,hj,rfl⟩:=hrel;by_cases hjl:j<s.size
    ·have h2:(j:Int)<(s.size:Int):=by omega
     have hby:=(s[j]'hjl).toNat_lt;by_cases hnn:n<1073741824
     ·go_wp2_with fail
      all_goals first
       | exact⟨⟨_,j+1,rfl,rfl,by omega,by omega,by omega,trivial⟩,by simp[intOf];omega⟩
       | exact⟨⟨k+1,rfl,by omega,trivial⟩,by simp[intOf];omega⟩
       | (go_ret;exact⟨⟨_,rfl,trivial⟩,rfl⟩)
     ·go_wp2_with fail
      all_goals first
       | exact⟨⟨_,j+1,rfl,rfl,by omega,by omega,by omega,trivial⟩,by simp[intOf];omega⟩
       | exact⟨⟨k+1,rfl,by omega,trivial⟩,by simp[intOf];omega⟩
       | (go_ret;exact⟨⟨_,rfl,trivial⟩,rfl⟩)
    ·have h2:¬(j:Int)<(s.size:Int):=by omega
     go_wp2_with fail
     all_goals first
      | exact⟨⟨_,j+1,rfl,rfl,by omega,by omega,by omega,trivial⟩,by simp[intOf];omega⟩
      | exact⟨⟨k+1,rfl,by omega,trivial⟩,by simp[intOf];omega⟩
      | (go_ret;exact⟨⟨_,rfl,trivial⟩,rfl⟩)
  ·have h1:¬(k:Int)+3<(s.size:Int):=by omega
   go_wp2_with fail
   go_ret;exact⟨⟨_,rfl,trivial⟩,rfl⟩
theorem proper_w(s:ByteArray)(w:World)(hs:s.size≤2147483647)(hL:s.size≤3000→Calls prog 35 #[.string s] w (Qks (fun _=>True) w)):Calls prog 41 #[.string s] w (Qks (fun b=>b=true→s.size≤3000) w):=by
 go_enter func41,ntmps41;by_cases h3:3000<s.size
 ·have h3':(3000:Int)<(s.size:Int):=by omega
  go_wp2_with fail
  go_ret;exact⟨⟨_,rfl,fun h=>by cases h⟩,Below.refl _ _⟩
 ·have h3':¬(3000:Int)<(s.size:Int):=by omega
  have HL:=Hi (hL (by omega));clear hL
  go_wp2_with fail
  refine HL.out.mono ?_;rintro e w1⟨⟨b,rfl,_⟩,B1⟩;have HB:=Hi B1;clear B1;cases b with
  | false =>
   go_wp2_with fail
   go_ret;exact⟨⟨_,rfl,fun h=>by cases h⟩,HB.out⟩
  | true =>
   go_wp2_with fail
   refine(Qkl s (by omega) w1).mono ?_;rintro e w2⟨⟨r,rfl,_⟩,rfl⟩;cases r with
   | true =>
    go_wp2_with fail
    go_ret;exact⟨⟨_,rfl,fun h=>by cases h⟩,HB.out⟩
   | false =>
    go_wp2_with fail
    go_loopw [3] (fun s3 wr=>∃k:Nat,s3=.int .i64 k∧k≤s.size∧wr=w2) (fun s3 _=>s.size-(intOf s3).toNat)
    case atStart=>exact⟨0,rfl,Nat.zero_le _,rfl⟩
    case round =>
     obtain⟨k,rfl,hk,rfl⟩:=hrel;by_cases hkl:k+1<s.size
     ·have h1:(k:Int)+1<(s.size:Int):=by omega
      go_wp2_with fail
      all_goals first
       | exact⟨⟨k+1,rfl,by omega,trivial⟩,by simp[intOf];omega⟩
       | (go_ret;exact⟨⟨_,rfl,fun h=>by cases h⟩,HB.out⟩)
     ·have h1:¬(k:Int)+1<(s.size:Int):=by omega
      go_wp2_with fail
      go_ret;exact⟨⟨_,rfl,fun _=>by omega⟩,HB.out⟩
theorem mul_in{n k:Int}(h0:0≤n)(h1:n≤256)(h2:0≤k)(h3:k≤6000):IntKind.i64.wrap (n*(k+1))=n*(k+1)∧0≤n*(k+1):=by
 have hk:0≤k+1:=by omega
 have a:0≤n*(k+1):=Int.mul_nonneg h0 hk;have b:n*(k+1)≤256*6001:=Int.mul_le_mul h1 (by omega) hk (by omega);exact⟨IntWalk.i64_in _ (by omega),a⟩
theorem Qkt(w:World)(l:List Itk)(p:Option Addr)(cap:Nat)(h:ItIs w p l)(hl:l.length≤5000)(hc:l.length≤cap):Calls prog 44 #[.slice p l.length cap] w (Qkj (fun _=>True) w):=by
 have HH:=Hi h;clear h;go_enter func44,ntmps44
 go_wp2_with fail
 go_loopw [3,4,5,6] (fun s3 s4 s5 s6 wr=>∃(n:Int)(a b:Bool)(k:Nat),s3=.int .i64 n∧s4=.bool a∧s5=.bool b∧s6=.int .i64 k∧0≤n∧n≤256∧k≤l.length∧wr=w) (fun _ _ _ s6 _=>l.length-(intOf s6).toNat)
 case atStart=>exact⟨1,false,false,0,rfl,rfl,rfl,rfl,by decide,by decide,Nat.zero_le _,rfl⟩
 case round =>
  obtain⟨n,a,b,k,rfl,rfl,rfl,rfl,hn0,hn1,hk,rfl⟩:=hrel;by_cases hkl:k<l.length
  ·have h1:(k:Int)<(l.length:Int):=by omega
   obtain⟨t,ht⟩:∃t,l[k]? =some t:=⟨l[k],by simp[hkl]⟩
   obtain⟨g,rfl,c0,c1,_⟩:=HH.out.cell ht
   go_wp2_with fail
   all_goals first
    | exact⟨⟨_,_,_,k+1,rfl,rfl,rfl,rfl,by omega,by omega,by omega,trivial⟩,by simp[intOf];omega⟩
    | (go_ret;exact⟨⟨_,rfl,trivial⟩,rfl⟩)
    | skip
   go_loopw [7] (fun s7 wq=>∃m:Nat,s7=.int .i64 m∧1≤m∧m≤l.length+1∧wq=wr) (fun s7 _=>l.length+1-(intOf s7).toNat)
   case atStart=>exact⟨1,rfl,by decide,by omega,rfl⟩
   case round =>
    obtain⟨m,rfl,hm1,hm2,rfl⟩:=hrel;have hmi:=mul_in hn0 hn1 (k:=(m:Int)) (by omega) (by omega);have hmw:=hmi.1;have hm0:=hmi.2;by_cases hlt:k+2*m<l.length
    ·have h2:(k:Int)+2*(m:Int)<(l.length:Int):=by omega
     obtain⟨t2,ht2⟩:∃t,l[k+2*m]? =some t:=⟨l[k+2*m],by simp[hlt]⟩
     obtain⟨g2,hg2,_,d1,_⟩:=HH.out.cell ht2;cases hg2
     go_wp2_with fail
     all_goals first
      | exact⟨⟨m+1,rfl,by omega,by omega,trivial⟩,by simp[intOf];omega⟩
      | exact⟨⟨_,_,_,k+1,rfl,rfl,rfl,rfl,by omega,by omega,by omega,trivial⟩,by simp[intOf];omega⟩
      | (go_ret;exact⟨⟨_,rfl,trivial⟩,rfl⟩)
    ·have h2:¬(k:Int)+2*(m:Int)<(l.length:Int):=by omega
     go_wp2_with fail
     all_goals first
      | exact⟨⟨m+1,rfl,by omega,by omega,trivial⟩,by simp[intOf];omega⟩
      | exact⟨⟨_,_,_,k+1,rfl,rfl,rfl,rfl,by omega,by omega,by omega,trivial⟩,by simp[intOf];omega⟩
      | (go_ret;exact⟨⟨_,rfl,trivial⟩,rfl⟩)
  ·have h1:¬(k:Int)<(l.length:Int):=by omega
   go_wp2_with fail
   go_ret;exact⟨⟨_,rfl,trivial⟩,rfl⟩
theorem asked_c(s:ByteArray)(hs:s.size≤2147483647)(w:World)(hT:Lib.Utf8Tabs 1 2 w)(h15:15≤w.heap.size):Calls prog 24 #[.string s] w (Qks (fun b=>b=true→s.size≤3000) w):=by
 have HP:=Hi (proper_w s w hs (fun h=>QiK s (by omega) w (Tryz.utf8_ValidString s w (by omega) hT)));have HT:=Hi (fun(w':World)(he:Below w.heap.size w w')=>Qbg hT (Ext.below (S:=fun _=>False) he) (fun h=>h) (fun h=>h));clear hT;go_enter func24,ntmps24
 go_wp2_with fail
 refine HP.out.mono ?_;rintro e w1⟨⟨b,rfl,hb⟩,B1⟩;have HB:=Hi B1;clear B1;cases b with
 | false =>
  go_wp2_with fail
  go_ret;exact⟨⟨_,rfl,fun h=>by cases h⟩,HB.out⟩
 | true =>
  have h3:=hb rfl;clear hb
  go_wp2_with fail
  refine(cut_c s h3 w1 (HT.out _ HB.out) (Xe h15 HB.out.size)).mono ?_;rintro e w2⟨B2,l,p,cap,k,rfl,hl1,hl2,hl3,hI⟩;have HB2:=Hi (HB.out.trans (B2.mono HB.out.size));have HI:=Hi hI;clear B2 hI HB;cases k with
  | false =>
   go_wp2_with fail
   go_ret;exact⟨⟨_,rfl,fun _=>h3⟩,HB2.out⟩
  | true =>
   go_wp2_with fail
   refine(few_c w2 l p cap HI.out (by omega) hl2).mono ?_;rintro e w3⟨⟨k3,rfl,_⟩,rfl⟩;cases k3 with
   | false =>
    go_wp2_with fail
    go_ret;exact⟨⟨_,rfl,fun _=>h3⟩,HB2.out⟩
   | true =>
    go_wp2_with fail
    refine(Qkt w3 l p cap HI.out (by omega) hl2).mono ?_;rintro e w4⟨⟨k4,rfl,_⟩,rfl⟩
    go_wp2_with fail
    go_ret;exact⟨⟨_,rfl,fun _=>h3⟩,HB2.out⟩
end Go.Proofs.Pg
