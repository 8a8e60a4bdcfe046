/- FnPolicyCut, part 11. -/
import Derived.Test.YtmhjkkkhdlnngaaGreatDoorP05
import Derived.Test.YtmhjkkkhdlnngaaGreatDoorP09
set_option linter.all false
set_option maxRecDepth 100000
set_option maxHeartbeats 0
namespace Go.Proofs.Pg
def Cn(us ts:Toks):Prop:=∃p,ts=p++us∧∀t∈p,t.tx.toList≠[59]
def Gd(ts:Toks):Prop:=∀t∈ts,t.tx.toList=[59]→t.ty=5
theorem Cn.refl(ts:Toks):Cn ts ts:=⟨[],rfl,by simp⟩
theorem Cn.trans{a b c:Toks}(h:Cn a b)(k:Cn b c):Cn a c:=by
 obtain⟨p,rfl,hp⟩:=h;obtain⟨q,rfl,hq⟩:=k;exact⟨q++p,by simp,fun t ht=>(List.mem_append.1 ht).elim (hq t) (hp t)⟩
theorem Qjn{a b c:Toks}(h:Cn b c)(k:Cn a b):Cn a c:=k.trans h
theorem Cn.wf{a b:Toks}(h:Cn a b)(k:Gd b):Gd a:=by
 obtain⟨p,rfl,hp⟩:=h;exact fun t ht=>k t (List.mem_append_right _ ht)
theorem Gd.refl{ts:Toks}(h:Gd ts):Cn ts ts:=Cn.refl ts
theorem Gd.adv{ts:Toks}(h:Gd ts):Gd (adv ts):=by
 match ts,h with
 | [],h=>exact h
 | [t],h=>exact h
 | t::u::r,h=>exact fun x hx=>h x (List.mem_cons_of_mem _ hx)
theorem adv_n{ts:Toks}(h:tx ts≠[59]):Cn (adv ts) ts:=by
 match ts,h with
 | [],h=>exact Cn.refl _
 | [t],h=>exact Cn.refl _
 | t::u::r,h=>exact⟨[t],rfl,by simpa [tx]using h⟩
theorem Qjb{ts:Toks}{s:List UInt8}(h:(tx ts==s)=true)(hs:s≠[59]):Cn (adv ts) ts:=adv_n (by rw[beq_iff_eq.1 h];exact hs)
theorem Qjc{ts:Toks}{k:Int}(hg:Gd ts)(h:(ty ts==k)=true)(hs:k≠5):Cn (adv ts) ts:=by
 match ts,hg,h with
 | [],_,_=>exact Cn.refl _
 | t::r,hg,h=>exact adv_n fun e=>hs ((beq_iff_eq.1 h).symm.trans (hg t (by simp) e))
theorem av{ts:Toks}(h:Cn (adv ts) ts:=by first | exact Qjb (by assumption) (by decide) | exact Qjc (by repeat first | assumption | apply Gd.adv) (by assumption) (by decide)):Cn (adv ts) ts:=h
theorem Qje{s:List UInt8}{ts us:Toks}(h:Gd ts)(he:exact s ts=some us)(hs:s≠[59]):Cn us ts:=by
 unfold exact at he;split at he
 ·rename_i ht;cases he;exact Qjb ht hs
 ·cases he
def Nc{α:Type}(m:Toks→Option (α×Toks)):Prop:=∀ts x us,Gd ts→m ts=some (x,us)→Cn us ts
theorem relOp_n{s:List UInt8}{n:Nat}(h:QbM s=some n):s≠[59]:=by
 rintro rfl;rw[show QbM [59]=none by decide]at h;cases h
theorem Qjv{E:Toks→Option (Ex×Toks)}{close:List UInt8}:∀(f:Nat)(acc l:List Ex)(ts us:Toks),QaE E close f acc ts=some (l,us)→(tx us==close)=true
 | 0,_,_,_,_,he=>by cases he
 | f+1,acc,l,ts,us,he=>by
  rw[QaE]at he;split at he
  ·rename_i hc;cases he;exact hc
  ·split at he
   ·cases he
   ·split at he
    ·exact Qjv f _ _ _ _ he
    ·split at he
     ·rename_i hc;cases he;exact hc
     ·cases he
theorem pathL_nc:∀f r,Nc (Qcz f r):=by
 intro f
 induction f with
 | zero=>intro r ts x us h he;cases he
 | succ f ih =>
  intro r ts x us h he;rw[Qcz]at he;split at he
  ·split at he
   ·have:=ih _ _ _ _ h.adv.adv he
    exact this.trans (Cn.trans av av)
   ·cases he
  ·cases he;exact h.refl
theorem Qk3:Nc path:=by
 intro ts x us h he;rw[path]at he;split at he
 ·rename_i hc
  exact Qjn av (pathL_nc _ _ _ _ _ h.adv he)
 ·cases he
variable {L:Lex}
theorem entL_nc:∀f r,Nc (entL L f r):=by
 intro f
 induction f with
 | zero=>intro r ts x us h he;cases he
 | succ f ih =>
  intro r ts x us h he;rw[entL]at he;split at he
  ·cases he
  ·rename_i vs hv
   have h1:=Qje h hv (by decide);have w1:=h1.wf h;split at he
   ·exact(ih _ _ _ _ w1.adv he).trans (Cn.trans av h1)
   ·split at he
    ·split at he
     ·cases he
     ·cases he;exact Cn.trans av h1
    ·cases he
theorem Qjj:Nc (entity L):=by
 intro ts x us h he;rw[entity]at he;split at he
 ·rename_i hc
  exact Qjn av (entL_nc _ _ _ _ _ h.adv he)
 ·cases he
variable {E:Toks→Option (Ex×Toks)}
theorem Qk4(hE:Nc E)(close:List UInt8):∀f acc,Nc (QaE E close f acc):=by
 intro f
 induction f with
 | zero=>intro r ts x us h he;cases he
 | succ f ih =>
  intro r ts x us h he;rw[QaE]at he;split at he
  ·cases he;exact h.refl
  ·split at he
   ·cases he
   ·rename_i y vs hv
    have h1:=(hE _ _ _ h hv);have w1:=h1.wf h;split at he
    ·exact(ih _ _ _ _ w1.adv he).trans (Cn.trans av h1)
    ·split at he
     ·cases he;exact h1
     ·cases he
theorem QjG(hE:Nc E)(close:List UInt8):Nc (Qbr E close):=fun ts x us h he=>Qk4 hE close _ _ _ _ _ h he
theorem key_nc{ts:Toks}{k:ByteArray}(h:Gd ts)(he:key L ts=some k):Cn (adv ts) ts:=by
 unfold key at he;split at he
 ·rename_i ht;exact Qjc h ht (by decide)
 ·split at he
  ·rename_i ht;exact Qjc h ht (by decide)
  ·cases he
theorem entry_nc(hE:Nc E):Nc (entry L E):=by
 intro ts x us h he;rw[entry]at he;split at he
 ·cases he
 ·split at he
  ·cases he
  ·rename_i vs hv
   have h1:=Qje h.adv hv (by decide);split at he
   ·cases he
   ·rename_i y zs hz
    cases he;exact(hE _ _ _ (h1.wf h.adv) hz).trans (h1.trans (key_nc h (by assumption)))
theorem recdL_nc(hE:Nc E):∀f acc,Nc (Qbz L E f acc):=by
 intro f
 induction f with
 | zero=>intro r ts x us h he;cases he
 | succ f ih =>
  intro r ts x us h he;rw[Qbz]at he;split at he
  ·cases he;exact av
  ·split at he
   ·cases he
   ·rename_i k y vs hv
    have h1:=entry_nc hE _ _ _ h hv;have w1:=h1.wf h;split at he
    ·cases he
    ·split at he
     ·exact(ih _ _ _ _ w1.adv he).trans (Cn.trans av h1)
     ·split at he
      ·cases he;exact Cn.trans av h1
      ·cases he
theorem recd_nc(hE:Nc E):Nc (recd L E):=fun ts x us h he=>recdL_nc hE _ _ _ _ _ h he
theorem Qkn(hE:Nc E):∀f r,Nc (Qa1 L E f r):=by
 intro f
 induction f with
 | zero=>intro r ts x us h he;cases he
 | succ f ih =>
  intro r ts x us h he;rw[Qa1]at he;split at he
  ·split at he
   ·exact(ih _ _ _ _ h.adv.adv he).trans (Cn.trans av av)
   ·split at he
    ·split at he
     ·cases he
     ·cases he;exact Cn.trans av av
    ·cases he
  ·split at he
   ·split at he
    ·split at he
     ·cases he
     ·rename_i l vs hv
      cases he;have h1:=QjG hE _ _ _ _ h.adv hv;exact Cn.trans (Qjb (Qjv _ _ _ _ _ hv) (by decide)) (h1.trans av)
    ·cases he
   ·cases he
theorem Qko(hE:Nc E):Nc (primary L E):=by
 intro ts x us h he;rw[primary]at he;split at he
 ·rename_i hc
  split at he
  ·cases he
  ·cases he;exact av
 split at he
 ·rename_i hc
  split at he
  ·cases he
  ·cases he;exact av
 split at he
 ·rename_i hc
  cases he;exact av
 split at he
 ·rename_i hc
  cases he;exact av
 split at he
 ·rename_i hc
  split at he
  ·exact Qjn av (Qkn hE _ _ _ _ _ h.adv he)
  ·split at he
   ·cases he
   ·cases he;exact av
 split at he
 ·rename_i hc
  split at he
  ·cases he
  ·rename_i y vs hv
   have h1:=(hE _ _ _ h.adv hv);split at he
   ·cases he
   ·rename_i zs hz
    cases he;exact Qjn av ((Qje (h1.wf h.adv) hz (by decide)).trans h1)
 split at he
 ·rename_i hc
  split at he
  ·cases he
  ·rename_i l vs hv
   cases he;have h1:=QjG hE _ _ _ _ h.adv hv;exact Qjn av (Cn.trans (Qjb (Qjv _ _ _ _ _ hv) (by decide)) h1)
 split at he
 ·rename_i hc
  split at he
  ·cases he
  ·rename_i l vs hv
   cases he;exact Qjn av (recd_nc hE _ _ _ h.adv hv)
 cases he
theorem Qk5(hE:Nc E)(lhs:Ex)(ts:Toks)(x:Ex)(us:Toks)(h:Gd ts)(he:access L E lhs ts=some (some (x,us))):Cn us ts:=by
 rw[access]at he;split at he
 ·rename_i hc
  split at he
  ·split at he
   ·split at he
    ·cases he
    ·rename_i l vs hv
     have h1:=QjG hE _ _ _ _ h.adv.adv.adv hv;split at he
     ·cases he
     ·cases he
      exact Qjn av (Cn.trans (Qjb (Qjv _ _ _ _ _ hv) (by decide)) (h1.trans (Cn.trans av av)))
   ·cases he;exact Qjn av av
  ·cases he
 split at he
 ·rename_i hc
  split at he
  ·split at he
   ·cases he
   ·split at he
    ·cases he
    ·rename_i vs hv
     cases he;exact Qjn av ((Qje h.adv.adv hv (by decide)).trans av)
  ·cases he
 cases he
theorem memL_nc(hE:Nc E):∀f y,Nc (memL L E f y):=by
 intro f
 induction f with
 | zero=>intro r ts x us h he;cases he
 | succ f ih =>
  intro r ts x us h he;rw[memL]at he;split at he
  ·cases he
  ·cases he;exact h.refl
  ·rename_i y vs hv
   have h1:=(Qk5 hE _ _ _ _ h hv);exact(ih _ _ _ _ (h1.wf h) he).trans h1
theorem Qk6(hE:Nc E):Nc (member L E):=by
 intro ts x us h he;rw[member]at he;split at he
 ·cases he
 ·rename_i y vs hv
  have h1:=Qko hE _ _ _ h hv;exact Qjn h1 (memL_nc hE _ _ _ _ _ (h1.wf h) he)
theorem opsL_nc:∀f acc (ts:Toks),Gd ts→Cn (opsL f acc ts).2 ts:=by
 intro f
 induction f with
 | zero=>intro acc ts h;exact h.refl
 | succ f ih =>
  intro acc ts h;rw[opsL];split
  ·exact(ih _ _ h.adv).trans av
  ·split
   ·exact(ih _ _ h.adv).trans av
   ·exact h.refl
theorem Qkh(hE:Nc E):Nc (unary L E):=by
 intro ts x us h he;rw[unary]at he;have h0:=opsL_nc (ts.length+1) [] ts h;have w0:=h0.wf h;split at he
 ·rename_i hc
  split at he
  ·cases he
  ·cases he
   exact Cn.trans (Qjc w0 hc.2 (by decide)) h0
 ·split at he
  ·cases he
  ·rename_i y vs hv
   cases he;have h1:=Qk6 hE _ _ _ w0 hv;exact h1.trans h0
theorem multL_nc(hE:Nc E):∀f y,Nc (Qcj L E f y):=by
 intro f
 induction f with
 | zero=>intro r ts x us h he;cases he
 | succ f ih =>
  intro r ts x us h he;rw[Qcj]at he;split at he
  ·split at he
   ·cases he
   ·rename_i y vs hv
    have h1:=(Qkh hE _ _ _ h.adv hv);exact(ih _ _ _ _ (h1.wf h.adv) he).trans (h1.trans av)
  ·cases he;exact h.refl
theorem QjX(hE:Nc E):Nc (mult L E):=by
 intro ts x us h he;rw[mult]at he;split at he
 ·cases he
 ·rename_i y vs hv
  have h1:=Qkh hE _ _ _ h hv;exact Qjn h1 (multL_nc hE _ _ _ _ _ (h1.wf h) he)
theorem addL_nc(hE:Nc E):∀f y,Nc (addL L E f y):=by
 intro f
 induction f with
 | zero=>intro r ts x us h he;cases he
 | succ f ih =>
  intro r ts x us h he;rw[addL]at he;split at he
  ·split at he
   ·cases he
   ·rename_i y vs hv
    have h1:=(QjX hE _ _ _ h.adv hv);exact(ih _ _ _ _ (h1.wf h.adv) he).trans (h1.trans av)
  ·split at he
   ·split at he
    ·cases he
    ·rename_i y vs hv
     have h1:=(QjX hE _ _ _ h.adv hv);exact(ih _ _ _ _ (h1.wf h.adv) he).trans (h1.trans av)
   ·cases he;exact h.refl
theorem Qk7(hE:Nc E):Nc (add L E):=by
 intro ts x us h he;rw[add]at he;split at he
 ·cases he
 ·rename_i y vs hv
  have h1:=QjX hE _ _ _ h hv;exact Qjn h1 (addL_nc hE _ _ _ _ _ (h1.wf h) he)
theorem hasL_nc:∀f y z,Nc (hasL f y z):=by
 intro f
 induction f with
 | zero=>intro r z ts x us h he;cases he
 | succ f ih =>
  intro r z ts x us h he;rw[hasL]at he;split at he
  ·split at he
   ·exact(ih _ _ _ _ _ h.adv.adv he).trans (Cn.trans av av)
   ·cases he
  ·cases he;exact h.refl
theorem has_nc(lhs:Ex):Nc (has L lhs):=by
 intro ts x us h he;rw[has]at he;split at he
 ·exact(hasL_nc _ _ _ _ _ _ h.adv he).trans av
 ·split at he
  ·split at he
   ·cases he
   ·cases he;exact av
  ·cases he
theorem like_nc(lhs:Ex):Nc (like L lhs):=by
 intro ts x us h he;rw[like]at he;split at he
 ·split at he
  ·cases he
  ·cases he;exact av
 ·cases he
theorem is_nc(hE:Nc E)(lhs:Ex):Nc (is L E lhs):=by
 intro ts x us h he;rw[is]at he;split at he
 ·cases he
 ·rename_i p vs hv
  have h1:=(Qk3 _ _ _ h hv);have w1:=h1.wf h;split at he
  ·split at he
   ·cases he
   ·rename_i y zs hz
    cases he;exact((Qk7 hE _ _ _ w1.adv hz)).trans (Cn.trans av h1)
  ·cases he;exact h1
theorem Qj2(hE:Nc E):Nc (relation L E):=by
 intro ts x us h he;rw[relation]at he;split at he
 ·cases he
 ·rename_i y vs hv
  have h1:=Qk7 hE _ _ _ h hv;have w1:=h1.wf h;refine Qjn h1 ?_;split at he
  ·exact(has_nc _ _ _ _ w1.adv he).trans av
  split at he
  ·exact(like_nc _ _ _ _ w1.adv he).trans av
  split at he
  ·exact(is_nc hE _ _ _ _ w1.adv he).trans av
  split at he
  ·cases he;exact w1.refl
  ·split at he
   ·cases he
   ·rename_i z zs hz
    cases he;exact((Qk7 hE _ _ _ w1.adv hz)).trans (adv_n (relOp_n (by assumption)))
theorem andL_nc(hE:Nc E):∀f y,Nc (andL L E f y):=by
 intro f
 induction f with
 | zero=>intro r ts x us h he;cases he
 | succ f ih =>
  intro r ts x us h he;rw[andL]at he;split at he
  ·split at he
   ·cases he
   ·rename_i y vs hv
    have h1:=(Qj2 hE _ _ _ h.adv hv);exact(ih _ _ _ _ (h1.wf h.adv) he).trans (h1.trans av)
  ·cases he;exact h.refl
theorem and_nc(hE:Nc E):Nc (and L E):=by
 intro ts x us h he;rw[and]at he;split at he
 ·cases he
 ·rename_i y vs hv
  have h1:=Qj2 hE _ _ _ h hv;exact Qjn h1 (andL_nc hE _ _ _ _ _ (h1.wf h) he)
theorem orL_nc(hE:Nc E):∀f y,Nc (orL L E f y):=by
 intro f
 induction f with
 | zero=>intro r ts x us h he;cases he
 | succ f ih =>
  intro r ts x us h he;rw[orL]at he;split at he
  ·split at he
   ·cases he
   ·rename_i y vs hv
    have h1:=(and_nc hE _ _ _ h.adv hv);exact(ih _ _ _ _ (h1.wf h.adv) he).trans (h1.trans av)
  ·cases he;exact h.refl
theorem or_nc(hE:Nc E):Nc (or L E):=by
 intro ts x us h he;rw[or]at he;split at he
 ·cases he
 ·rename_i y vs hv
  have h1:=and_nc hE _ _ _ h hv;exact Qjn h1 (orL_nc hE _ _ _ _ _ (h1.wf h) he)
theorem exprB_nc(hE:Nc E):Nc (QbH L E):=by
 intro ts x us h he;rw[QbH]at he;split at he
 ·rename_i hc
  refine Qjn av ?_;split at he
  ·cases he
  ·rename_i y v1 hv
   have h1:=(hE _ _ _ h.adv hv);split at he
   ·cases he
   ·rename_i v2 hv2
    have h2:=Qje (h1.wf h.adv) hv2 (by decide);have w2:=h2.wf (h1.wf h.adv);split at he
    ·cases he
    ·rename_i z v3 hv3
     have h3:=(hE _ _ _ w2 hv3);split at he
     ·cases he
     ·rename_i v4 hv4
      have h4:=Qje (h3.wf w2) hv4 (by decide);have w4:=h4.wf (h3.wf w2);split at he
      ·cases he
      ·rename_i q v5 hv5
       cases he;exact(hE _ _ _ w4 hv5).trans (h4.trans (h3.trans (h2.trans h1)))
 ·exact or_nc hE _ _ _ h he
theorem Qk8:∀f,Nc (expr L f):=by
 intro f
 induction f with
 | zero=>intro ts x us h he;cases he
 | succ f ih=>exact exprB_nc ih
end Go.Proofs.Pg
namespace Go.Proofs.YtmhjkkkhdlnngaaGreatDoor
open Go Go.Proofs.Tryz
theorem tsize:prog.types.size=480:=by kernel_rfl
theorem allA(u:Nat)(h:u<480):rowA u=true:=by
 have:0≤u∧u<60∨60≤u∧u<120∨120≤u∧u<180∨180≤u∧u<240∨240≤u∧u<300∨300≤u∧u<360∨360≤u∧u<420∨420≤u∧u<480:=by omega
 rcases this with h | h | h | h | h | h | h | h
 ·exact List.all_eq_true.1 ra0 u (List.mem_range'_1.2 (by omega))
 ·exact List.all_eq_true.1 ra1 u (List.mem_range'_1.2 (by omega))
 ·exact List.all_eq_true.1 ra2 u (List.mem_range'_1.2 (by omega))
 ·exact List.all_eq_true.1 ra3 u (List.mem_range'_1.2 (by omega))
 ·exact List.all_eq_true.1 ra4 u (List.mem_range'_1.2 (by omega))
 ·exact List.all_eq_true.1 ra5 u (List.mem_range'_1.2 (by omega))
 ·exact List.all_eq_true.1 ra6 u (List.mem_range'_1.2 (by omega))
 ·exact List.all_eq_true.1 ra7 u (List.mem_range'_1.2 (by omega))
theorem allB(u:Nat)(h:u<480):rowB u=true:=by
 have:0≤u∧u<60∨60≤u∧u<120∨120≤u∧u<180∨180≤u∧u<240∨240≤u∧u<300∨300≤u∧u<360∨360≤u∧u<420∨420≤u∧u<480:=by omega
 rcases this with h | h | h | h | h | h | h | h
 ·exact List.all_eq_true.1 rb0 u (List.mem_range'_1.2 (by omega))
 ·exact List.all_eq_true.1 rb1 u (List.mem_range'_1.2 (by omega))
 ·exact List.all_eq_true.1 rb2 u (List.mem_range'_1.2 (by omega))
 ·exact List.all_eq_true.1 rb3 u (List.mem_range'_1.2 (by omega))
 ·exact List.all_eq_true.1 rb4 u (List.mem_range'_1.2 (by omega))
 ·exact List.all_eq_true.1 rb5 u (List.mem_range'_1.2 (by omega))
 ·exact List.all_eq_true.1 rb6 u (List.mem_range'_1.2 (by omega))
 ·exact List.all_eq_true.1 rb7 u (List.mem_range'_1.2 (by omega))
theorem star : "*"++ "errors.errorString"= "*errors.errorString":= by decide
theorem Qio(u:TypeId)(h:prog.typeName? 3 u=some "*errors.errorString"):u=346:=by
 refine typeName_ptr_named (nm := "errors.errorString") ?_ ?_ (by decide) u (by rw[star];exact h)
 ·rw[star,List.all_eq_true]
  intro u hu;exact allA u (by rw[←tsize];exact List.mem_range.1 hu)
 ·rw[List.all_eq_true]
  intro u hu;exact allB u (by rw[←tsize];exact List.mem_range.1 hu)
end Go.Proofs.YtmhjkkkhdlnngaaGreatDoor
