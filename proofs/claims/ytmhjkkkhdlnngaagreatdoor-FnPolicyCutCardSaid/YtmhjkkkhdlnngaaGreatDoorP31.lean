/- FnPolicyCut, part 31. -/
import Derived.Test.YtmhjkkkhdlnngaaGreatDoorP11
import Derived.Test.YtmhjkkkhdlnngaaGreatDoorP28
import Derived.Test.YtmhjkkkhdlnngaaGreatDoorP29
set_option linter.all false
set_option maxRecDepth 100000
set_option maxHeartbeats 0
namespace Go.Proofs.Pg
variable {L:Lex}
theorem note_nc{acc:List (ByteArray×ByteArray)}:Nc (note L acc):=by
 intro ts n us h he;unfold note at he;split at he
 ·rename_i hc
  have h0:Cn (adv ts) ts:=hc.elim (fun hc=>Qjc h hc (by decide)) (fun hc=>Qjc h hc (by decide));split at he
  ·cases he
  ·split at he
   ·rename_i h1
    split at he
    ·rename_i h2
     split at he
     ·cases he
     ·split at he
      ·cases he
      ·rename_i vs hv
       cases he;exact(Qje h.adv.adv.adv hv (by decide)).trans ((Qjc h.adv.adv h2 (by decide)).trans ((Qjb h1 (by decide)).trans h0))
    ·cases he
   ·cases he
    exact h0
 ·cases he
theorem QjO:∀(f:Nat)(acc:List (ByteArray×ByteArray)),Nc (Qb9 L f acc)
 | 0,_=>fun _ _ _ _ he=>by cases he
 | f+1,acc=>fun ts l us h he=>by
  rw[Qb9]at he;split at he
  ·rename_i hc
   split at he
   ·cases he
   ·rename_i n vs hv
    have h1:=note_nc _ _ _ h.adv hv;exact(QjO f _ _ _ _ (h1.wf h.adv) he).trans (h1.trans (Qjb hc (by decide)))
  ·cases he;exact h.refl
theorem effM_nc:Nc effM:=by
 intro ts b us h he;unfold effM at he;split at he
 ·rename_i hc;cases he;exact Qjb hc (by decide)
 ·split at he
  ·rename_i hc;cases he;exact Qjb hc (by decide)
  ·cases he
theorem Qj7{wd:List UInt8}(hwd:wd≠[59]):Nc (Qat L wd):=by
 intro ts s us h he;unfold Qat at he;split at he
 ·cases he
 ·rename_i vs hv
  have h1:=Qje h hv hwd;have hw:=h1.wf h;split at he
  ·rename_i hc
   split at he
   ·cases he
   ·rename_i z zs hz
    cases he;exact(Qjj _ _ _ hw.adv hz).trans ((Qjb hc (by decide)).trans h1)
  ·split at he
   ·rename_i hc
    split at he
    ·cases he
    ·rename_i z zs hz
     have h2:=(Qk3 _ _ _ hw.adv hz);have hw2:=h2.wf hw.adv;split at he
     ·rename_i hc2
      split at he
      ·cases he
      ·rename_i y ys hy
       cases he;exact(Qjj _ _ _ hw2.adv hy).trans ((Qjb hc2 (by decide)).trans (h2.trans ((Qjb hc (by decide)).trans h1)))
     ·cases he
      exact h2.trans ((Qjb hc (by decide)).trans h1)
   ·split at he
    ·rename_i hc
     split at he
     ·cases he
     ·rename_i z zs hz
      cases he;exact(Qjj _ _ _ hw.adv hz).trans ((Qjb hc (by decide)).trans h1)
    ·cases he;exact h1
theorem Qki:∀(f:Nat)(acc:List (ByteArray×ByteArray))(ts us:Toks)(l:List (ByteArray×ByteArray)),Gd ts→Qcg L f acc ts=some (l,us)→Cn us ts∧(tx us==[93])=true
 | 0,_,_,_,_,_,he=>by cases he
 | f+1,acc,ts,us,l,h,he=>by
  rw[Qcg]at he;split at he
  ·rename_i hc;cases he;exact⟨h.refl,hc⟩
  ·split at he
   ·cases he
   ·rename_i n vs hv
    have h1:=Qjj _ _ _ h hv;have hw:=h1.wf h;split at he
    ·rename_i hc
     have h2:=Qki f _ _ _ _ hw.adv he;exact⟨h2.1.trans ((Qjb hc (by decide)).trans h1),h2.2⟩
    ·split at he
     ·rename_i hc;cases he;exact⟨h1,hc⟩
     ·cases he
theorem Qkp:Nc (QaI L):=by
 intro ts s us h he;unfold QaI at he;split at he
 ·cases he
 ·rename_i vs hv
  have h1:=Qje h hv (by decide);have hw:=h1.wf h;split at he
  ·rename_i hc
   split at he
   ·cases he
   ·rename_i z zs hz
    cases he;exact(Qjj _ _ _ hw.adv hz).trans ((Qjb hc (by decide)).trans h1)
  ·split at he
   ·rename_i hc
    split at he
    ·rename_i hc2
     split at he
     ·cases he
     ·rename_i z zs hz
      cases he;have h2:=Qki _ _ _ _ _ hw.adv.adv hz;exact(Qjb h2.2 (by decide)).trans (h2.1.trans ((Qjb hc2 (by decide)).trans ((Qjb hc (by decide)).trans h1)))
    ·split at he
     ·cases he
     ·rename_i z zs hz
      cases he;exact(Qjj _ _ _ hw.adv hz).trans ((Qjb hc (by decide)).trans h1)
   ·cases he;exact h1
theorem Qk9{E:Toks→Option (Ex×Toks)}(hE:Nc E):Nc (cond E):=by
 intro ts x us h he;rw[cond]at he;split at he
 ·cases he
 ·rename_i vs hv
  have h1:=Qje h hv (by decide);split at he
  ·cases he
  ·rename_i y zs hz
   have h2:=hE _ _ _ (h1.wf h) hz;split at he
   ·cases he
   ·rename_i xs hx
    cases he;exact(Qje (h2.wf (h1.wf h)) hx (by decide)).trans (h2.trans h1)
theorem Qj3{E:Toks→Option (Ex×Toks)}(hE:Nc E):∀(f:Nat)(acc:List (Bool×Ex)),Nc (Qbh E f acc)
 | 0,_=>fun _ _ _ _ he=>by cases he
 | f+1,acc=>fun ts l us h he=>by
  rw[Qbh]at he;split at he
  ·rename_i hc
   split at he
   ·cases he
   ·rename_i n vs hv
    have h1:=Qk9 hE _ _ _ h.adv hv;exact(Qj3 hE f _ _ _ _ (h1.wf h.adv) he).trans (h1.trans (Qjb hc (by decide)))
  ·split at he
   ·rename_i hc
    split at he
    ·cases he
    ·rename_i n vs hv
     have h1:=Qk9 hE _ _ _ h.adv hv;exact(Qj3 hE f _ _ _ _ (h1.wf h.adv) he).trans (h1.trans (Qjb hc (by decide)))
   ·cases he;exact h.refl
theorem skip1_nc{ts:Toks}(h:Gd ts):Cn (Qds ts) ts:=by
 unfold Qds;split
 ·rename_i hc;exact Qjb hc (by decide)
 ·exact h.refl
theorem QjP{E:Toks→Option (Ex×Toks)}(hE:Nc E){ts us:Toks}{P:Pol}(h:Gd ts)(he:Qa2 L E ts=some (P,us)):∃vs,Cn vs ts∧(tx vs==[59])=true∧us=adv vs:=by
 unfold Qa2 at he;simp only[Option.bind_eq_some_iff]at he;obtain⟨a,ha,b,hb,t3,h3,c,hc,t5,h5,d,hd,t7,h7,e,he',t10,h10,f,hf,t12,h12,hlast⟩:=he;cases hlast;have s1:Cn a.2 ts:=QjO _ _ _ a.1 a.2 h ha;have w1:=s1.wf h;have s2:Cn b.2 a.2:=effM_nc _ b.1 b.2 w1 hb;have w2:=s2.wf w1;have s3:=Qje w2 h3 (by decide);have w3:=s3.wf w2;have s4:Cn c.2 t3:=Qj7 (by decide) _ c.1 c.2 w3 hc;have w4:=s4.wf w3;have s5:=Qje w4 h5 (by decide)
 have w5:=s5.wf w4;have s6:Cn d.2 t5:=Qkp _ d.1 d.2 w5 hd;have w6:=s6.wf w5;have s7:=Qje w6 h7 (by decide);have w7:=s7.wf w6;have s8:Cn e.2 t7:=Qj7 (by decide) _ e.1 e.2 w7 he';have w8:=s8.wf w7;have s9:=skip1_nc w8;have w9:=s9.wf w8;have s10:=Qje w9 h10 (by decide);have w10:=s10.wf w9;have s11:Cn f.2 t10:=Qj3 hE _ _ _ f.1 f.2 w10 hf;have st:=s11.trans (s10.trans (s9.trans (s8.trans (s7.trans (s6.trans (s5.trans (s4.trans (s3.trans (s2.trans s1)))))))))
 unfold exact at h12;split at h12
 ·rename_i ht
  cases h12;exact⟨_,st,ht,rfl⟩
 ·cases h12
theorem tl_dt(s:ByteArray):s.toList=s.data.toList:=by have:=ByteArray.toList_mk s.data.toList;simpa using this
theorem QjR{L:Lex}{N:Nat}:∀(f:Nat)(acc ps:List Pol)(ts:Toks),Qiu L N f acc ts=some ps→acc.length≤ps.length∧(ps.length=acc.length→ty ts=0)
 | 0,_,_,_,h=>by cases h
 | f+1,acc,ps,ts,h=>by
  rw[Qiu]at h;split at h
  ·rename_i ht;cases h;exact⟨Xb _,fun _=>beq_iff_eq.1 ht⟩
  ·split at h
   ·cases h
   ·rename_i P us hm
    have:=(QjR f _ _ _ h).1;rw[List.length_append,List.length_singleton]at this;exact⟨by omega,fun e=>by omega⟩
theorem Qj4{L:Lex}{N f:Nat}{acc ps:List Pol}{ts:Toks}(h:Qiu L N f acc ts=some ps)(hn:ty ts≠0):∃P us,Qa2 L (expr L N) ts=some (P,us)∧(ps.length=acc.length+1→ty us=0):=by
 cases f with
 | zero=>cases h
 | succ f =>
  rw[Qiu]at h;split at h
  ·rename_i ht;exact absurd (beq_iff_eq.1 ht) hn
  ·split at h
   ·cases h
   ·rename_i P us hm
    exact⟨P,us,hm,fun e=>(QjR f _ _ _ h).2 (by rw[e,List.length_append,List.length_singleton])⟩
theorem cut_law{L:Lex}{t:List UInt8}{ts:List Tok}{ps:List Pol}{k o:Nat}{x:Tok}(h:toks t=some ts)(hp:Qit L t=some ps)(h1:ps.length=1)(hk:1≤k)(hk2:k+2≤ts.length)(hx:ts[k]? =some x)(hxo:x.off=(o:Int)):Qit L (t.take o)=none:=by
 obtain⟨l,e,hl,he0,het,hall⟩:=Qkg h;have hlen:ts.length=l.length+1:=by rw[hl];simp
 have hmem:∀i y,ts[i]? =some y→i<l.length→y∈l:=fun i y hy hi=>by
  rw[hl,List.getElem?_append_left hi]at hy;exact List.mem_of_getElem? hy
 have hx0:=(hall x (hmem k x hx (by omega))).1;have hne:ty ts≠0:=by
  cases ts with
  | nil=>simp at hlen
  | cons a r=>exact(hall a (hmem 0 a rfl (by omega))).1
 have hG:Gd ts:=fun y hy hs=>by
  rw[hl]at hy;rcases List.mem_append.1 hy with hy | hy
  ·exact(hall y hy).2.1 (by rw[←tl_dt];exact hs)
  ·rw[List.mem_singleton]at hy
   subst hy;rw[tl_dt,het]at hs;cases hs
 unfold Qit at hp;rw[h]at hp;obtain⟨P,us,hP,hus⟩:=Qj4 (show Qiu L ts.length (ts.length+1) [] ts=some ps from hp) hne;have hus:=hus (by rw[h1];rfl);obtain⟨vs,⟨p,hpv,hps⟩,hv,rfl⟩:=QjP (Qk8 _) hG hP;have hfin:k≤p.length:=by
  match vs,hv,hus,hpv with
  | [],hv,_,_=>exact absurd hv (by decide)
  | [v],hv,_,hpv =>
   rw[hl]at hpv;have:=(List.append_inj' hpv rfl).2;cases this;rw[show tx [e]=e.tx.toList from rfl,tl_dt,het]at hv;exact absurd hv (by decide)
  | v::u::r,_,hus,hpv =>
   have hu:u.ty=0:=hus;have hr:r=[]:=by
    rcases List.eq_nil_or_concat r with h0 | ⟨r',a,h0⟩
    ·exact h0
    ·rw[List.concat_eq_append]at h0
     subst h0;rw[hl,show p++v::u::(r'++[a])=(p++v::u::r')++[a]by simp]at hpv;have:=(List.append_inj' hpv rfl).1;exact absurd hu (hall u (by rw[this];simp)).1
   subst hr;rw[hpv,List.length_append]at hk2;simp at hk2;omega
 unfold Qit;cases h':toks (t.take o)with
 | none=>rfl
 | some ts' =>
  obtain⟨l',e',q1,q2,q3,q4⟩:=toks_cut h h' hx hx0 hxo;have hns:∀y∈ts',y.tx.toList≠[59]:=fun y hy hs=>by
   rw[q1]at hy;rcases List.mem_append.1 hy with hy | hy
   ·obtain⟨i,hi⟩:=List.mem_iff_getElem?.1 hy
    obtain⟨z,hz,_,hzx,_⟩:=q4 i y hi;have hil:i<l'.length:=by
     by_cases hil:i<l'.length
     ·exact hil
     ·rw[List.getElem?_eq_none (by omega)]at hi;cases hi
    rw[hpv,List.getElem?_append_left (by omega)]at hz;rw[hzx]at hs;exact hps z (List.mem_of_getElem? hz) hs
   ·rw[List.mem_singleton]at hy
    subst hy;rw[tl_dt,q3]at hs;cases hs
  show Qiu L ts'.length (ts'.length+1) [] ts'=none;cases hq:Qiu L ts'.length (ts'.length+1) [] ts' with
  | none=>rfl
  | some qs =>
   exfalso;have hne':ty ts'≠0:=by
    cases l' with
    | nil=>simp at q2;omega
    | cons a r =>
     obtain⟨z,_,_,_,ha⟩:=q4 0 a rfl;rw[q1];exact ha
   obtain⟨P',us',hP',_⟩:=Qj4 hq hne';obtain⟨vs',⟨p',hpv',_⟩,hv',_⟩:=QjP (Qk8 _) (fun y hy hs=>absurd hs (hns y hy)) hP';cases vs' with
   | nil=>exact absurd hv' (by decide)
   | cons a r=>exact hns a (by rw[hpv'];simp) (beq_iff_eq.1 hv')
end Go.Proofs.Pg
