/- FnComma: a last comma changes nothing; for every world. Part 17. -/
import Derived.Test.YtmhjkkkhdlnngaaGreatDoorZ16
import Derived.Deep.OwnRows
set_option linter.all false
set_option maxRecDepth 100000
set_option maxHeartbeats 40000000
namespace Go.Proofs.Pg
open Go.RowKit
attribute [local go_sem] Oper.semAt_some
def NodesIs(w:World)(lo:Nat)(vals:List Value)(l:List Ex):Prop :=
 vals.length=l.length∧∀(i:Nat)(a:Ex),l[i]? =some a→∃(T:TypeId)(v:Value),vals[i]? =some (Value.iface T v)∧NodeIs w lo (.iface T v) a
theorem NodesIs.nil{w:World}{lo:Nat}:NodesIs w lo [] []:=⟨rfl,fun i a h=>by simp at h⟩
theorem NodesIs.ext{w w':World}{lo:Nat}{S:Nat→Prop}{vals:List Value}{l:List Ex}(h:NodesIs w lo vals l)(he:Ext S w w')(hs:∀d,S d→Soft w lo d):NodesIs w' lo vals l :=
 ⟨h.1,fun i a hi=>by obtain⟨T,v,h1,h2⟩:=h.2 i a hi;exact⟨T,v,h1,h2.ext he hs⟩⟩
theorem NodesIs.keep{w w':World}{lo:Nat}{S:Nat→Prop}{vals:List Value}{l:List Ex}(h:NodesIs w lo vals l)(he:Ext S w w')(hs:∀d,S d→d<lo):NodesIs w' lo vals l:=h.ext he (fun d hd=>.inl (hs d hd))
theorem NodesIs.later{w w':World}{lo:Nat}{vals:List Value}{l:List Ex}(h:NodesIs w lo vals l)(hb:Below w.heap.size w w'):NodesIs w' lo vals l:=h.ext (S:=fun _=>False) (.below hb) (fun _ k=>k.elim)
theorem NodesIs.grow{w w':World}{lo:Nat}{vals:List Value}{l:List Ex}{base:Nat}{e:TypeId}{size:Nat}{v:Value}{n:Nat}{xs:List Value}(h:NodesIs w lo vals l)(ho:w.ownsRow base e size v n xs)(hg:w.grownBy w' v.ownBlock)(he:e≠136∧e≠221∧e≠316):NodesIs w' lo vals l :=
 ⟨h.1,fun i a hi=>by obtain⟨T,v,h1,h2⟩:=h.2 i a hi;exact⟨T,v,h1,h2.grow ho hg he⟩⟩
theorem NodesIs.snoc{w:World}{lo:Nat}{vals:List Value}{l:List Ex}{T:TypeId}{v:Value}{x:Ex}(h:NodesIs w lo vals l)(hx:NodeIs w lo (.iface T v) x):NodesIs w lo (vals++[.iface T v]) (l++[x]):=by
 refine⟨by simp[h.1],fun i a hi=>?_⟩;by_cases hl:i<l.length
 ·rw[List.getElem?_append_left hl]at hi
  obtain⟨T,v,h1,h2⟩:=h.2 i a hi;exact⟨T,v,by rw[List.getElem?_append_left (by have:=h.1;omega)];exact h1,h2⟩
 ·rw[List.getElem?_append_right (by omega)]at hi
  have h0:i-l.length=0:=by
   rcases Nat.eq_zero_or_pos (i-l.length)with h | h
   ·exact h
   ·rw[List.getElem?_eq_none (by simp only[List.length_singleton];omega)]at hi;cases hi
  rw[h0]at hi;simp at hi;subst hi;exact⟨T,v,by rw[List.getElem?_append_right (by have:=h.1;omega),show i-vals.length=0 by have:=h.1;omega];rfl,hx⟩
def ListP(bp base:Nat)(w:World)(r:Option (List Ex×Toks))(e:Ending)(w':World):Prop :=
 Ext (·=bp) w w'∧match r with
 | none=>∃s T v,e=.returned (.tuple #[s,.iface T v])
 | some (l,us)=>∃s vals,e=.returned (.tuple #[s,.nilIface])∧PS w' bp base us∧w'.ownsRow w.heap.size 299 1 s l.length vals∧NodesIs w' base vals l∧l.length≤1000000
def Qg8(close:ByteArray)(m:Toks→Option (List Ex×Toks))(bp base N:Nat):Prop :=
 ∀w ts,PS w bp base ts→Wf ts→ts.length≤N→base≤w.heap.size→Calls Tryz.prog 278 #[.pointer (some ⟨bp,0,none⟩),.string close] w (ListP bp base w (m ts))
def LsRel(m:Nat→List Ex→Toks→Option (List Ex×Toks))(bp base N B:Nat)(w:World)(Rm:Option (List Ex×Toks))(s:Value)(wr:World):Prop :=
 ∃g acc vals vs,m g acc vs=Rm∧vs.length<g∧Wf vs∧vs.length≤N∧acc.length+vs.length≤N∧PS wr bp base vs∧wr.ownsRow B 299 1 s acc.length vals∧NodesIs wr base vals acc∧Ext (·=bp) w wr
theorem Qg9{L:Lex}{E:Toks→Option (Ex×Toks)}{bp base N:Nat}(hE:Sh E)(hC:FnC 149 E bp base N):Qg8 (⟨#[41]⟩:ByteArray) (Qbr E [41]) bp base N:=by
 intro w ts hp hwf hN hbs;have hbb:=hp.hbp;have h15:=hp.h15;have hlen:=hp.len;have HC:=Hi hC;have HE:=Hi hE;clear hC hE;have HF:=Hi (show Qbr E [41] ts=QaE E [41] (ts.length+1) [] ts from rfl);go_enter Tryz.func278,Tryz.ntmps278
 go_upto_region 2 with(fail)
 go_loopw [6] (fun s wr=>LsRel (QaE E [41]) bp base ts.length (w.heap.size) w (QaE E [41] (ts.length+1) [] ts) s wr) (fun _ wr=>left wr bp)
 case atStart=>exact⟨ts.length+1,[],[],ts,rfl,by omega,hwf,by omega,by simp,hp,⟨rfl,.inl ⟨rfl,rfl⟩⟩,.nil,.refl _ _⟩
 case round =>
  clear hp;obtain⟨wo,rfl⟩:∃wo:World,wo=wr:=⟨_,rfl⟩
  rename_i sops _;obtain⟨g,acc,vals,vs,hg,hgl,hvw,hvN,haN,hp_wo,hO_wo,hm_wo,hX_wo⟩:=hrel;have HG:=Hi hg;clear hg;cases g with
  | zero=>omega
  | succ g =>
  obtain⟨u,q,rfl⟩:∃u q,vs=u::q:=by cases vs with | nil=>exact absurd rfl hp_wo.ne | cons u q=>exact⟨u,q,rfl⟩
  have HLF:=Hi hp_wo.left;have hsz_wo:=hX_wo.size;have hul:0<(u::q).length:=by simp
  go_wp2_with fail
  refine(Qa7 hp_wo).mono ?_;rintro e w1⟨rfl,hF⟩;have hm1:=hm_wo.later hF;have hO1:=Qaj (S:=fun _=>False) hO_wo (.below hF) (fun _ h=>h.elim);have hs1:=hF.size;have hX1:=hX_wo.trans (.below hF);have hp1:=hp_wo.below hF;clear hm_wo hO_wo hX_wo hp_wo;clear hF;cases ht:(u.tx.toList==[41])with
  | true =>
   have HR:=Hi (show Qbr E [41] ts=some (acc,u::q)by rw[HF.out,←HG.out,QaE];simp[tx,ht]);go_wp2
   go_ret2
   rw[HR.out];exact⟨hX1,_,_,rfl,hp1,hO1,hm1,by omega⟩
  | false =>
   have hnc:=ht;clear ht
   go_wp2_with fail
   refine(HC.out _ _ hp1 hvw (by omega) (by omega)).mono ?_;rintro e w2⟨hF,hr⟩;have hm2:=hm1.keep hF (fun d hd=>by omega);have hO2:=Qaj hO1 hF (fun d hd=>by omega);have hs2:=hF.size;have hX2:=hX1.trans hF;clear hm1 hO1 hX1;clear hF;cases hm:E (u::q)with
   | none =>
    rw[hm]at hr;obtain⟨T2,v2,rfl⟩:=hr;have HR:=Hi (show Qbr E [41] ts=none by rw[HF.out,←HG.out,QaE];simp[tx,hnc,hm]);clear hm;go_wp2
    go_ret2
    rw[HR.out];exact⟨hX2.alloc _,_,_,_,rfl⟩
   | some p =>
    obtain⟨x,us⟩:=p;rw[hm]at hr;obtain⟨T2,v2,rfl,hp9,hx2⟩:=hr;have hsh:=HE.out _ _ _ hvw hm;have hwu:=hsh.1.wf hvw;have hl2:=hsh.2;have HM:=Hi hm;clear hm hsh
    go_upto_region 4 with(fail)
    obtain⟨w3,hw⟩:∃w3,w2.alloc (.cells #[.iface T2 v2] 299)=w3:=⟨_,rfl⟩
    rw[hw];have hF:Below w2.heap.size w2 w3:=by rw[←hw];exact Qab _ _
    have hB3:w3.heap[w2.heap.size]? =some (.cells #[.iface T2 v2] 299 (0,0)):=by rw[←hw];exact heap_alloc_new _ _
    have hs3:w2.heap.size+1≤w3.heap.size:=by rw[←hw];simp
    clear hw;have hm3:=hm2.later hF;have hx3:=hx2.later hF;have hO3:=Qaj (S:=fun _=>False) hO2 (.below hF) (fun _ h=>h.elim);have hX3:=hX2.trans (.below hF);have hp3:=hp9.below hF;clear hm2 hx2 hO2 hX2 hp9;clear hF;have c_hB_0:=Qaa (o:=0) hB3 rfl;have hcn:(w3.alloc (.cells #[.iface T2 v2] 299)).cell? ⟨w3.heap.size,0,none⟩=some (.iface T2 v2):=Qaa (heap_alloc_new _ _) rfl;have hOa:=Qaj (S:=fun _=>False) hO3 (.below (Qab _ (.cells #[.iface T2 v2] 299))) (fun _ h=>h.elim)
    have hma:=hm3.later (Qab _ (.cells #[.iface T2 v2] 299));have hxa:=hx3.later (Qab _ (.cells #[.iface T2 v2] 299));have hpa:=hp3.below (Qab _ (.cells #[.iface T2 v2] 299));have hXa:=hX3.alloc (.cells #[.iface T2 v2] 299);clear hO3 hm3 hx3 hB3 hp3 hX3
    go_wp2_with(at_builtin;refine appG sl413 rfl _ _ rfl (w.heap.size) _ _ _ rfl hOa _ [.iface T2 v2] rfl rfl (QaD hcn) (fun v hv=>by rw[List.mem_singleton.1 hv];rfl) (by unfold maxLen;omega) (by omega) (by simp;omega) ?_)
    intro v9 w9 hO9 hg9 _;have hs9:w3.heap.size≤w9.heap.size:=by have:=hg9.size;simp at this;omega
    have hm9:=(hma.grow hOa hg9 (by decide)).snoc (hxa.grow hOa hg9 (by decide));have hp_w9:=hpa.grow hOa hg9 (by omega);have hX9:=hXa.grow hOa hg9 (by omega);clear hOa hma hxa hpa hXa hcn hg9 c_hB_0;obtain⟨u2,q2,rfl⟩:∃u q,us=u::q:=by cases us with | nil=>exact absurd rfl hp_w9.ne | cons u q=>exact⟨u,q,rfl⟩
    go_wp2_with fail
    refine(Qa7 hp_w9).mono ?_;rintro e w10⟨rfl,hF⟩;have hm10:=hm9.later hF;have hO10:=Qaj (S:=fun _=>False) hO9 (.below hF) (fun _ h=>h.elim);have hs10:=hF.size;have hX10:=hX9.trans (.below hF);have hp10:=hp_w9.below hF;clear hm9 hO9 hX9 hp_w9;clear hF;cases ht:(u2.tx.toList==[44])with
    | true =>
     have hau:(adv (u2::q2)).length<(u2::q2).length:=Qax hwu (s:=[44]) ht (by decide)
     go_wp2_with fail
     refine(Qaz hp10).mono ?_;rintro e w11⟨rfl,hp11,hF⟩;have hm11:=hm10.keep hF (fun d hd=>by omega);have hO11:=Qaj hO10 hF (fun d hd=>by omega);have hs11:=hF.size;have hX11:=hX10.trans hF;clear hm10 hO10 hX10 hp10;clear hF;have HG2:=Hi (show QaE E [41] g (acc++[x]) (adv (u2::q2))=QaE E [41] (ts.length+1) [] ts by rw[←HG.out,QaE];simp[tx,hnc,HM.out,ht]);go_wp2;go_roundw
     case rel=>exact⟨g,acc++[x],_,_,HG2.out,by omega,hwu.adv,by omega,by rw[List.length_append];show acc.length+1+_≤_;omega,hp11,by simpa using hO11,hm11,hX11⟩
     case measure =>
      rw[hp11.left,HLF.out];omega
    | false =>
     have hnk:=ht;clear ht;cases ht:(u2.tx.toList==[41])with
     | true =>
      have HG2:=Hi (show QaE E [41] g (acc++[x]) (u2::q2)=QaE E [41] (ts.length+1) [] ts by obtain⟨g',rfl⟩:∃g',g=g'+1:=⟨g-1,by omega⟩;rw[←HG.out];simp[QaE,tx,hnc,HM.out,hnk,ht]);go_wp2;go_roundw
      case rel=>exact⟨g,acc++[x],_,_,HG2.out,by omega,hwu,by omega,by rw[List.length_append];show acc.length+1+_≤_;omega,hp10,by simpa using hO10,hm10,hX10⟩
      case measure =>
       rw[hp10.left,HLF.out];omega
     | false =>
      have HR:=Hi (show Qbr E [41] ts=none by rw[HF.out,←HG.out,QaE];simp[tx,hnc,HM.out,hnk,ht])
      go_wp2_with fail
      refine(Qa7 hp10).mono ?_;rintro e w11⟨rfl,hF⟩;have hm11:=hm10.later hF;have hO11:=Qaj (S:=fun _=>False) hO10 (.below hF) (fun _ h=>h.elim);have hs11:=hF.size;have hX11:=hX10.trans (.below hF);have hp11:=hp10.below hF;clear hm10 hO10 hX10 hp10;clear hF
      go_wp2_with fail
      refine(Qay (hp11.below (Qab _ _)) _ _).mono ?_;rintro e w12⟨T9,v9,rfl,hF0⟩;have hF:=(Qab w11 (.cells #[.iface 9 (.string u2.tx)] 20)).trans (hF0.mono (by simp));clear hF0;have hm12:=hm11.later hF;have hO12:=Qaj (S:=fun _=>False) hO11 (.below hF) (fun _ h=>h.elim);have hs12:=hF.size;have hX12:=hX11.trans (.below hF);have hp12:=hp11.below hF;clear hm11 hO11 hX11 hp11;clear hF;go_wp2
      go_ret2
      rw[HR.out];exact⟨hX12,_,_,_,rfl⟩
theorem QgA{L:Lex}{E:Toks→Option (Ex×Toks)}{bp base N:Nat}(hE:Sh E)(hC:FnC 149 E bp base N):Qg8 (⟨#[93]⟩:ByteArray) (Qbr E [93]) bp base N:=by
 intro w ts hp hwf hN hbs;have hbb:=hp.hbp;have h15:=hp.h15;have hlen:=hp.len;have HC:=Hi hC;have HE:=Hi hE;clear hC hE;have HF:=Hi (show Qbr E [93] ts=QaE E [93] (ts.length+1) [] ts from rfl);go_enter Tryz.func278,Tryz.ntmps278
 go_upto_region 2 with(fail)
 go_loopw [6] (fun s wr=>LsRel (QaE E [93]) bp base ts.length (w.heap.size) w (QaE E [93] (ts.length+1) [] ts) s wr) (fun _ wr=>left wr bp)
 case atStart=>exact⟨ts.length+1,[],[],ts,rfl,by omega,hwf,by omega,by simp,hp,⟨rfl,.inl ⟨rfl,rfl⟩⟩,.nil,.refl _ _⟩
 case round =>
  clear hp;obtain⟨wo,rfl⟩:∃wo:World,wo=wr:=⟨_,rfl⟩
  rename_i sops _;obtain⟨g,acc,vals,vs,hg,hgl,hvw,hvN,haN,hp_wo,hO_wo,hm_wo,hX_wo⟩:=hrel;have HG:=Hi hg;clear hg;cases g with
  | zero=>omega
  | succ g =>
  obtain⟨u,q,rfl⟩:∃u q,vs=u::q:=by cases vs with | nil=>exact absurd rfl hp_wo.ne | cons u q=>exact⟨u,q,rfl⟩
  have HLF:=Hi hp_wo.left;have hsz_wo:=hX_wo.size;have hul:0<(u::q).length:=by simp
  go_wp2_with fail
  refine(Qa7 hp_wo).mono ?_;rintro e w1⟨rfl,hF⟩;have hm1:=hm_wo.later hF;have hO1:=Qaj (S:=fun _=>False) hO_wo (.below hF) (fun _ h=>h.elim);have hs1:=hF.size;have hX1:=hX_wo.trans (.below hF);have hp1:=hp_wo.below hF;clear hm_wo hO_wo hX_wo hp_wo;clear hF;cases ht:(u.tx.toList==[93])with
  | true =>
   have HR:=Hi (show Qbr E [93] ts=some (acc,u::q)by rw[HF.out,←HG.out,QaE];simp[tx,ht]);go_wp2
   go_ret2
   rw[HR.out];exact⟨hX1,_,_,rfl,hp1,hO1,hm1,by omega⟩
  | false =>
   have hnc:=ht;clear ht
   go_wp2_with fail
   refine(HC.out _ _ hp1 hvw (by omega) (by omega)).mono ?_;rintro e w2⟨hF,hr⟩;have hm2:=hm1.keep hF (fun d hd=>by omega);have hO2:=Qaj hO1 hF (fun d hd=>by omega);have hs2:=hF.size;have hX2:=hX1.trans hF;clear hm1 hO1 hX1;clear hF;cases hm:E (u::q)with
   | none =>
    rw[hm]at hr;obtain⟨T2,v2,rfl⟩:=hr;have HR:=Hi (show Qbr E [93] ts=none by rw[HF.out,←HG.out,QaE];simp[tx,hnc,hm]);clear hm;go_wp2
    go_ret2
    rw[HR.out];exact⟨hX2.alloc _,_,_,_,rfl⟩
   | some p =>
    obtain⟨x,us⟩:=p;rw[hm]at hr;obtain⟨T2,v2,rfl,hp9,hx2⟩:=hr;have hsh:=HE.out _ _ _ hvw hm;have hwu:=hsh.1.wf hvw;have hl2:=hsh.2;have HM:=Hi hm;clear hm hsh
    go_upto_region 4 with(fail)
    obtain⟨w3,hw⟩:∃w3,w2.alloc (.cells #[.iface T2 v2] 299)=w3:=⟨_,rfl⟩
    rw[hw];have hF:Below w2.heap.size w2 w3:=by rw[←hw];exact Qab _ _
    have hB3:w3.heap[w2.heap.size]? =some (.cells #[.iface T2 v2] 299 (0,0)):=by rw[←hw];exact heap_alloc_new _ _
    have hs3:w2.heap.size+1≤w3.heap.size:=by rw[←hw];simp
    clear hw;have hm3:=hm2.later hF;have hx3:=hx2.later hF;have hO3:=Qaj (S:=fun _=>False) hO2 (.below hF) (fun _ h=>h.elim);have hX3:=hX2.trans (.below hF);have hp3:=hp9.below hF;clear hm2 hx2 hO2 hX2 hp9;clear hF;have c_hB_0:=Qaa (o:=0) hB3 rfl;have hcn:(w3.alloc (.cells #[.iface T2 v2] 299)).cell? ⟨w3.heap.size,0,none⟩=some (.iface T2 v2):=Qaa (heap_alloc_new _ _) rfl;have hOa:=Qaj (S:=fun _=>False) hO3 (.below (Qab _ (.cells #[.iface T2 v2] 299))) (fun _ h=>h.elim)
    have hma:=hm3.later (Qab _ (.cells #[.iface T2 v2] 299));have hxa:=hx3.later (Qab _ (.cells #[.iface T2 v2] 299));have hpa:=hp3.below (Qab _ (.cells #[.iface T2 v2] 299));have hXa:=hX3.alloc (.cells #[.iface T2 v2] 299);clear hO3 hm3 hx3 hB3 hp3 hX3
    go_wp2_with(at_builtin;refine appG sl413 rfl _ _ rfl (w.heap.size) _ _ _ rfl hOa _ [.iface T2 v2] rfl rfl (QaD hcn) (fun v hv=>by rw[List.mem_singleton.1 hv];rfl) (by unfold maxLen;omega) (by omega) (by simp;omega) ?_)
    intro v9 w9 hO9 hg9 _;have hs9:w3.heap.size≤w9.heap.size:=by have:=hg9.size;simp at this;omega
    have hm9:=(hma.grow hOa hg9 (by decide)).snoc (hxa.grow hOa hg9 (by decide));have hp_w9:=hpa.grow hOa hg9 (by omega);have hX9:=hXa.grow hOa hg9 (by omega);clear hOa hma hxa hpa hXa hcn hg9 c_hB_0;obtain⟨u2,q2,rfl⟩:∃u q,us=u::q:=by cases us with | nil=>exact absurd rfl hp_w9.ne | cons u q=>exact⟨u,q,rfl⟩
    go_wp2_with fail
    refine(Qa7 hp_w9).mono ?_;rintro e w10⟨rfl,hF⟩;have hm10:=hm9.later hF;have hO10:=Qaj (S:=fun _=>False) hO9 (.below hF) (fun _ h=>h.elim);have hs10:=hF.size;have hX10:=hX9.trans (.below hF);have hp10:=hp_w9.below hF;clear hm9 hO9 hX9 hp_w9;clear hF;cases ht:(u2.tx.toList==[44])with
    | true =>
     have hau:(adv (u2::q2)).length<(u2::q2).length:=Qax hwu (s:=[44]) ht (by decide)
     go_wp2_with fail
     refine(Qaz hp10).mono ?_;rintro e w11⟨rfl,hp11,hF⟩;have hm11:=hm10.keep hF (fun d hd=>by omega);have hO11:=Qaj hO10 hF (fun d hd=>by omega);have hs11:=hF.size;have hX11:=hX10.trans hF;clear hm10 hO10 hX10 hp10;clear hF;have HG2:=Hi (show QaE E [93] g (acc++[x]) (adv (u2::q2))=QaE E [93] (ts.length+1) [] ts by rw[←HG.out,QaE];simp[tx,hnc,HM.out,ht]);go_wp2;go_roundw
     case rel=>exact⟨g,acc++[x],_,_,HG2.out,by omega,hwu.adv,by omega,by rw[List.length_append];show acc.length+1+_≤_;omega,hp11,by simpa using hO11,hm11,hX11⟩
     case measure =>
      rw[hp11.left,HLF.out];omega
    | false =>
     have hnk:=ht;clear ht;cases ht:(u2.tx.toList==[93])with
     | true =>
      have HG2:=Hi (show QaE E [93] g (acc++[x]) (u2::q2)=QaE E [93] (ts.length+1) [] ts by obtain⟨g',rfl⟩:∃g',g=g'+1:=⟨g-1,by omega⟩;rw[←HG.out];simp[QaE,tx,hnc,HM.out,hnk,ht]);go_wp2;go_roundw
      case rel=>exact⟨g,acc++[x],_,_,HG2.out,by omega,hwu,by omega,by rw[List.length_append];show acc.length+1+_≤_;omega,hp10,by simpa using hO10,hm10,hX10⟩
      case measure =>
       rw[hp10.left,HLF.out];omega
     | false =>
      have HR:=Hi (show Qbr E [93] ts=none by rw[HF.out,←HG.out,QaE];simp[tx,hnc,HM.out,hnk,ht])
      go_wp2_with fail
      refine(Qa7 hp10).mono ?_;rintro e w11⟨rfl,hF⟩;have hm11:=hm10.later hF;have hO11:=Qaj (S:=fun _=>False) hO10 (.below hF) (fun _ h=>h.elim);have hs11:=hF.size;have hX11:=hX10.trans (.below hF);have hp11:=hp10.below hF;clear hm10 hO10 hX10 hp10;clear hF
      go_wp2_with fail
      refine(Qay (hp11.below (Qab _ _)) _ _).mono ?_;rintro e w12⟨T9,v9,rfl,hF0⟩;have hF:=(Qab w11 (.cells #[.iface 9 (.string u2.tx)] 20)).trans (hF0.mono (by simp));clear hF0;have hm12:=hm11.later hF;have hO12:=Qaj (S:=fun _=>False) hO11 (.below hF) (fun _ h=>h.elim);have hs12:=hF.size;have hX12:=hX11.trans (.below hF);have hp12:=hp11.below hF;clear hm11 hO11 hX11 hp11;clear hF;go_wp2
      go_ret2
      rw[HR.out];exact⟨hX12,_,_,_,rfl⟩
theorem Qes{w:World}{B n:Nat}{e:TypeId}{s:Value}{vals:List Value}(h:w.ownsRow B e 1 s n vals) :
  (n=0∧s=.slice none 0 0)∨∃g cap c,s=.slice (some ⟨g,0,none⟩) n cap∧B≤g∧w.heap[g]? =some (.cells c e (0,0))∧n≤cap∧cap≤maxLen∧∀i,i<n→c[i]? =vals[i]? := by
 obtain⟨h1,h2⟩:=h;rcases h2 with⟨h,h0⟩ | ⟨g,cap,cur,a,b,c,d,e,f,k⟩
 ·exact .inl ⟨h0,h⟩
 ·refine .inr ⟨g,cap,cur,a,b,c,d,e,fun i hi=>?_⟩
  have hk:(cur.toList.take (n*1))[i]? =vals[i]? := by rw[k]
  rw[List.getElem?_take_of_lt (by omega)]at hk;simpa using hk
theorem Qby{a b:World}{d o:Nat}{v:Value}(h:Below a.heap.size a b)(hd:a.heap.size≤d):Below a.heap.size a (b.setCell ⟨d,o,none⟩ v) :=
 ((Ext.below (S:=fun _=>False) h).set (.inr hd) _).toBelow (fun _ h=>h.elim) (Nat.le_refl _)
@[go_sem] theorem eql413_n(w:World):(binOp .eql 413 (.slice none 0 0) (.slice none 0 0)).run Tryz.prog w=.ok (.bool true) w:=by kernel_rfl
@[go_sem] theorem eql413_s(g:Nat)(n c:Nat)(w:World):(binOp .eql 413 (.slice (some ⟨g,0,none⟩) n c) (.slice none 0 0)).run Tryz.prog w=.ok (.bool false) w:=by kernel_rfl
def StRel(w:World)(b n:Nat)(vals:List Value)(s:Value)(wr:World):Prop :=
 ∃(i:Nat)(c:Array Value),s=.int .i64 (i:Int)∧i≤n∧c.size=n∧wr.heap[b]? =some (.cells c 136 (0,0))∧(∀j:Nat,j<i→c[j]? =some (vals.getD j .nilIface))∧Below w.heap.size w wr
theorem QgB{w:World}{B n:Nat}{s:Value}{vals:List Value}(ho:w.ownsRow B 299 1 s n vals)(hv:∀i:Nat,i<n→∃(T:TypeId)(v:Value),vals[i]? =some (Value.iface T v))(hn:n≤1000000) :
  Calls Tryz.prog 304 #[s] w fun e w'=>Below w.heap.size w w'∧∃p c,e=.returned (.slice p n c)∧RowAt w' w.heap.size 136 p n (fun i=>vals.getD i .nilIface):=by
 rcases Qes ho with⟨rfl,rfl⟩ | ⟨g,cap,c,rfl,hB,hg,h1,h2,hc⟩
 ·go_enter Tryz.func304,Tryz.ntmps304
  go_wp2;go_ret;exact⟨.refl _ _,none,0,rfl,.inl rfl⟩
 ·have hmk:=run_make_row' (P:=Tryz.prog) 212 136 .nilIface 16 (by kernel_rfl) (by kernel_rfl) rfl .i64 .i64 n (by omega) (by omega)
  have hlg:=Qad hg;go_enter Tryz.func304,Tryz.ntmps304
  go_upto_region 4 with(fail)
  obtain⟨w1,hw⟩:∃w1,w.alloc (.cells (madeCells #[.nilIface] n) 136)=w1:=⟨_,rfl⟩
  rw[hw];have hb:Below w.heap.size w w1:=by rw[←hw];exact Qab _ _
  have hb1:w1.heap[w.heap.size]? =some (.cells (madeCells #[.nilIface] n) 136 (0,0)):=by rw[←hw];exact heap_alloc_new _ _
  clear hw
  go_upto_region 5 with(fail)
  go_loopw [13] (fun s wr=>StRel w w.heap.size n vals s wr) (fun s _=>(n-intOf s).toNat)
  case atStart=>exact⟨0,_,rfl,by omega,by simp[madeCells],hb1,fun j hj=>absurd hj (Nat.not_lt_zero _),hb⟩
  case round =>
   clear hb hb1;obtain⟨wo,rfl⟩:∃wo:World,wo=wr:=⟨_,rfl⟩
   obtain⟨i,c',rfl,hi,hcs,hbo,hcj,hbl⟩:=hrel;have hso:=hbl.size;have hlb:=Qad hbo;by_cases hin:i<n
   ·obtain⟨T,v,hvv⟩:=hv i hin
    have hci:wo.cell? ⟨g,i,none⟩=some (.iface T v):=Qaa ((hbl.block _ hlg).trans hg) ((hc i hin).trans hvv)
    go_upto_region 7 with(fail)
    obtain⟨w2,hw⟩:∃w2,wo.alloc (.cells #[.iface T v] 299)=w2:=⟨_,rfl⟩
    rw[hw];have hx:w2.cell? ⟨wo.heap.size,0,none⟩=some (.iface T v):=by rw[←hw];exact Qaa (heap_alloc_new _ _) rfl
    have hb2:w2.heap[w.heap.size]? =some (.cells c' 136 (0,0)):=by rw[←hw];exact Qaf hbo _
    have hbl2:Below w.heap.size w w2:=by rw[←hw];exact hbl.alloc (by omega) _
    have hsz:wo.heap.size<w2.heap.size:=by rw[←hw];simp
    have hold:w2.cell? ⟨w.heap.size,i,none⟩=some c'[i]:=Qaa hb2 (by simp[hcs,hin]);have hfr:w2.frozen? ⟨w.heap.size,i,none⟩=false:=Qae hb2 i;have hend:=Qby (d:=w.heap.size) (o:=i) (v:=.iface T v) hbl2 (Nat.le_refl _);have hset:=Qac (o:=i) hb2 (.iface T v);have HE:=Hi (And.intro hend hset);clear hw hb2 hbl2 hci hbo hbl hend hset;go_wp2;go_roundw
    case rel =>
     refine⟨i+1,_,rfl,by omega,?_,HE.out.2,fun j hj=>?_,HE.out.1⟩
     ·simp[hcs]
     ·rcases Nat.lt_or_eq_of_le (Nat.le_of_lt_succ hj)with h | rfl
      ·rw[Array.getElem?_setIfInBounds_ne (by omega)];exact hcj j h
      ·rw[Array.getElem?_setIfInBounds_self_of_lt (by omega)];simp[List.getD,hvv]
    case measure=>simp[intOf];omega
   ·obtain rfl:i=n:=by omega
    go_wp2;go_ret;exact⟨hbl,some ⟨w.heap.size,0,none⟩,_,rfl,.inr ⟨_,0,c',_,rfl,Nat.le_refl _,hbo,fun j hj=>by simpa using hcj j hj⟩⟩
theorem NodesIs.at{w:World}{lo:Nat}{vals:List Value}{l:List Ex}(h:NodesIs w lo vals l):∀i a,l[i]? =some a→NodeIs w lo (vals.getD i .nilIface) a:=by
 intro i a hi;obtain⟨T,v,h1,h2⟩:=h.2 i a hi;rw[show vals.getD i .nilIface=.iface T v by simp[List.getD,h1]];exact h2
theorem NodesIs.vals{w:World}{lo:Nat}{vals:List Value}{l:List Ex}(h:NodesIs w lo vals l):∀i:Nat,i<l.length→∃(T:TypeId)(v:Value),vals[i]? =some (Value.iface T v):=by
 intro i hi;obtain⟨T,v,h1,h2⟩:=h.2 i l[i] (by simp[hi]);exact⟨T,v,h1⟩
theorem n308_c(s t:ByteArray)(w:World):Calls Tryz.prog 308 #[.string s,.string t] w fun e w'=>e=.returned (.agg #[.string s,.string t])∧Below w.heap.size w w':=by
 go_enter Tryz.func308,Tryz.ntmps308;go_wp2;exact bodyPost_ret (Qao (a:=4) (t:=167) (by kernel_rfl) _ ⟨w.heap.size,0,none⟩ rfl _ _ (QeP _ _ _ _ _ (by kernel_rfl) (by kernel_rfl) (Qaa (o:=0) (heap_alloc_new w _) rfl) (Qaa (o:=1) (heap_alloc_new w _) rfl))) rfl ⟨rfl,Qab w _⟩
theorem n298_c(s t:ByteArray)(w:World):Calls Tryz.prog 298 #[.string s,.string t] w (QaY w (.iface 182 (.agg #[.iface 167 (.agg #[.string s,.string t])]))):=by
 go_enter Tryz.func298,Tryz.ntmps298
 go_wp2_with fail
 refine(n308_c _ _ _).mono ?_;rintro e w1⟨rfl,hb1⟩;have hs:=hb1.size;have r1:w1.heap[w.heap.size]? =some (.cells #[.nilIface] 299 (0,0)):=(hb1.block _ (by simp)).trans (heap_alloc_new w _);have hb0:Below w.heap.size w w1:=(Qab w _).trans (hb1.mono (by simp));have hlt:=Qad r1
 go_upto_region 2 with(fail)
 obtain⟨w3,hw⟩:∃w3,w1.alloc (.cells #[.string s,.string t] 167)=w3:=⟨_,rfl⟩
 rw[hw];have k0:w3.cell? ⟨w1.heap.size,0,none⟩=some (.string s):=by rw[←hw];exact Qaa (heap_alloc_new _ _) rfl
 have k1:w3.cell? ⟨w1.heap.size,1,none⟩=some (.string t):=by rw[←hw];exact Qaa (heap_alloc_new _ _) rfl
 have r3:w3.heap[w.heap.size]? =some (.cells #[.nilIface] 299 (0,0)):=by rw[←hw];exact Qaf r1 _
 have hb3:Below w.heap.size w w3:=by rw[←hw];exact hb0.alloc (by omega) _
 have R1:=Hi r3;clear r1 hb1 r3 hw hb0
 go_wp2_with fail
 refine(Qfu _ _ _).mono ?_;rintro e w2⟨rfl,hb⟩;obtain⟨z1,z2,z3⟩:=Qan hb R1.out;have hE:=Qap (w:=w) (R:=w.heap.size) (v:=.iface 182 (.agg #[.iface 167 (.agg #[.string s,.string t])])) (Ext.below hb3) hb (by omega);have HE:=Hi hE;clear hb hE k0 k1;go_wp2;exact Qaq (R:=w.heap.size) _ 4 (by kernel_rfl) rfl rfl (Qac (o:=0) z3.out _) ⟨rfl,HE.out⟩
theorem n269_c{L:Lex}(hL:LexC L)(t:Tok)(w:World)(hg:Glob w)(h15:15≤w.heap.size)(hz:t.tx.size≤1000000):Calls Tryz.prog 269 #[t.val] w (IntV w (L.int t.tx)):=by
 have hsz:t.tx.size≤1000001:=by omega
 go_enter Tryz.func269,Tryz.ntmps269
 go_wp2_with fail
 refine(hL.int t.tx _ (hg.ext (S:=fun _=>False) (.below (Qab w _)) (fun _ k=>k.elim) h15) (by simp;omega) hsz).mono ?_;rintro e w1⟨hb,hr⟩;have hb1:Below w.heap.size w w1:=(Qab w _).trans (hb.mono (by simp));have HB:=Hi hb1;clear hb hb1;cases hm:L.int t.tx with
 | none =>
  rw[hm]at hr;obtain⟨n,T,v,rfl⟩:=hr;have HM:=Hi hm;clear hm;go_wp2
  go_ret2
  rw[HM.out];exact⟨HB.out,_,_,_,rfl⟩
 | some n =>
  rw[hm]at hr;obtain rfl:=hr;have HM:=Hi hm;clear hm;go_wp2
  go_ret2
  rw[HM.out];exact⟨HB.out,rfl⟩
def Qet(base:Nat)(w:World)(x:Ex)(e:Ending)(w':World):Prop :=
 Below w.heap.size w w'∧∃T v,e=.returned (.agg #[.iface T v])∧NodeIs w' base (.iface T v) x
theorem RowAt.later{w w':World}{lo tag:Nat}{p:Option Addr}{n:Nat}{vs:Nat→Value}(h:RowAt w lo tag p n vs)(ht:tag=136∨tag=221∨tag=316)(hb:Below w.heap.size w w'):RowAt w' lo tag p n vs:=h.ext (S:=fun _=>False) ht (.below hb) (fun _ k=>k.elim)
theorem set_c{w:World}{base B:Nat}{s:Value}{vals:List Value}{l:List Ex}(hbs:base≤w.heap.size)(ho:w.ownsRow B 299 1 s l.length vals)(hn:NodesIs w base vals l)(hl:l.length≤1000000):Calls Tryz.prog 279 #[s] w (Qet base w (.set l)):=by
 have hv:=hn.vals;go_enter Tryz.func279,Tryz.ntmps279
 go_wp2_with fail
 refine(QgB (Qaj (S:=fun _=>False) ho (.below (Qab _ _)) (fun _ h=>h.elim)) hv hl).mono ?_;rintro e w1⟨hb1,p,c,rfl,hr⟩;have hs:=hb1.size;have r1:w1.heap[w.heap.size]? =some (.cells #[.nilIface] 299 (0,0)):=(hb1.block _ (by simp)).trans (heap_alloc_new w _);have hb0:Below w.heap.size w w1:=(Qab w _).trans (hb1.mono (by simp));have hS:NodeIs w1 base (.iface 216 (.agg #[.slice p l.length c])) (.set l):=.set l p c _ (hr.mono (by simp;omega)) (hn.later hb0).at
 have R1:=Hi r1;clear r1 hb1 hr
 go_wp2_with fail
 refine(Qar _ _ _).mono ?_;rintro e w2⟨rfl,hb⟩;obtain⟨z1,z2,z3⟩:=Qan hb R1.out;have hE:=Qap (w:=w) (R:=w.heap.size) (v:=.iface 216 (.agg #[.slice p l.length c])) (Ext.below hb0) hb (by omega);have HE:=Hi (And.intro hE ((hS.later hb).store (o:=0) z3.out (by decide) (.iface 216 (.agg #[.slice p l.length c]))));clear hb hE;go_wp2;exact Qaq (R:=w.heap.size) _ 2 (by kernel_rfl) rfl rfl (Qac (o:=0) z3.out _) ⟨HE.out.1,_,_,rfl,HE.out.2⟩
theorem n309_c{w:World}{base B:Nat}{s:Value}{vals:List Value}{l:List Ex}(name:ByteArray)(hbs:base≤w.heap.size)(ho:w.ownsRow B 299 1 s l.length vals)(hn:NodesIs w base vals l)(hl:l.length≤1000000):Calls Tryz.prog 309 #[.string name,s] w (Qet base w (.call name l)):=by
 have hv:=hn.vals;go_enter Tryz.func309,Tryz.ntmps309
 go_wp2_with fail
 refine(QgB (Qaj (S:=fun _=>False) ho (.below (Qab _ _)) (fun _ h=>h.elim)) hv hl).mono ?_;rintro e w1⟨hb1,p,c,rfl,hr⟩;have hs:=hb1.size;have r1:w1.heap[w.heap.size]? =some (.cells #[.nilIface] 299 (0,0)):=(hb1.block _ (by simp)).trans (heap_alloc_new w _);have hb0:Below w.heap.size w w1:=(Qab w _).trans (hb1.mono (by simp));have hS:NodeIs w1 base (.iface 214 (.agg #[.string name,.slice p l.length c])) (.call name l):=.call name l p c _ (hr.mono (by simp;omega)) (hn.later hb0).at
 have R1:=Hi r1;clear r1 hb1 hr
 go_wp2_with fail
 refine(Qar _ _ _).mono ?_;rintro e w2⟨rfl,hb⟩;obtain⟨z1,z2,z3⟩:=Qan hb R1.out;have hE:=Qap (w:=w) (R:=w.heap.size) (v:=.iface 214 (.agg #[.string name,.slice p l.length c])) (Ext.below hb0) hb (by omega);have HE:=Hi (And.intro hE ((hS.later hb).store (o:=0) z3.out (by decide) (.iface 214 (.agg #[.string name,.slice p l.length c]))));clear hb hE;go_wp2;exact Qaq (R:=w.heap.size) _ 4 (by kernel_rfl) rfl rfl (Qac (o:=0) z3.out _) ⟨HE.out.1,_,_,rfl,HE.out.2⟩
theorem n299_c{w:World}{base B:Nat}{s:Value}{vals:List Value}{l:List Ex}(name:ByteArray)(hbs:base≤w.heap.size)(ho:w.ownsRow B 299 1 s l.length vals)(hn:NodesIs w base vals l)(hl:l.length≤1000000):Calls Tryz.prog 299 #[.string name,s] w (Qet base w (.call name l)):=by
 go_enter Tryz.func299,Tryz.ntmps299
 go_wp2_with fail
 refine(n309_c name (by simp;omega) (Qaj (S:=fun _=>False) ho (.below (Qab _ _)) (fun _ h=>h.elim)) (hn.later (Qab _ _)) hl).mono ?_;rintro e w1⟨hb1,T,v,rfl,hS⟩;have hs:=hb1.size;have r1:w1.heap[w.heap.size]? =some (.cells #[.nilIface] 299 (0,0)):=(hb1.block _ (by simp)).trans (heap_alloc_new w _);have hb0:Below w.heap.size w w1:=(Qab w _).trans (hb1.mono (by simp));have c0:w1.cell? ⟨w.heap.size,0,none⟩=some .nilIface:=Qaa r1 rfl
 have f0:w1.frozen? ⟨w.heap.size,0,none⟩=false:=Qae r1 0;have HE:=Hi (And.intro r1 (And.intro (Qby (d:=w.heap.size) (o:=0) (v:=.iface T v) hb0 (Nat.le_refl _)) (hS.store (o:=0) r1 (by decide) (.iface T v))));clear r1 hb1 hb0;go_wp2;exact Qaq (R:=w.heap.size) _ 4 (by kernel_rfl) rfl rfl (Qac (o:=0) HE.out.1 _) ⟨HE.out.2.1,_,_,rfl,HE.out.2.2⟩
def MtRel(w:World)(R b n:Nat)(x:Value)(vals:List Value)(s:Value)(wr:World):Prop :=
 ∃(i:Nat)(c:Array Value),s=.int .i64 (i:Int)∧i≤n∧c.size=1+n∧wr.heap[b]? =some (.cells c 136 (0,0))∧c[0]? =some x∧(∀j:Nat,j<i→c[j+1]? =some (vals.getD j .nilIface))∧wr.heap[R]? =some (.cells #[.nilIface] 299 (0,0))∧Below w.heap.size w wr∧b<wr.heap.size
theorem n290_c{w:World}{base B:Nat}{s:Value}{vals:List Value}{l:List Ex}{T:TypeId}{v:Value}{x:Ex}(name:ByteArray)(hbs:base≤w.heap.size)(hB:B≤w.heap.size)(hx:NodeIs w base (.iface T v) x)(ho:w.ownsRow B 299 1 s l.length vals)(hnn:NodesIs w base vals l)(hl:l.length≤1000000):Calls Tryz.prog 290 #[.agg #[.iface T v],.string name,s] w (Qet base w (.call name (x::l))):=by
 have hv:=hnn.vals;obtain⟨n,hn⟩:∃n,n=l.length:=⟨_,rfl⟩
 have hmk:=run_make_row' (P:=Tryz.prog) 212 136 .nilIface 16 (by kernel_rfl) (by kernel_rfl) rfl .i64 .i64 (1+n) (by omega) (by omega);rw[show((1+n:Nat):Int)=1+(n:Int)by omega]at hmk;have hs4:(s=.slice none 0 0∧n=0)∨∃g cap c,s=.slice (some ⟨g,0,none⟩) n cap∧w.heap[g]? =some (.cells c 299 (0,0))∧n≤cap∧∀i,i<n→c[i]? =vals[i]? := by
  rcases Qes ho with⟨h1,h2⟩ | ⟨g,cap,c,h1,_,h2,h3,_,h4⟩
  ·exact .inl ⟨h2,by omega⟩
  ·exact .inr ⟨g,cap,c,by rw[hn];exact h1,h2,by omega,by rw[hn];exact h4⟩
 obtain⟨p,cap,rfl,hrow⟩:∃p cap,s=.slice p n cap∧(n=0∨∃g c,p=some ⟨g,0,none⟩∧w.heap[g]? =some (.cells c 299 (0,0))∧n≤cap∧∀i,i<n→c[i]? =vals[i]?):=by
  rcases hs4 with⟨h1,h2⟩ | ⟨g,cap,c,h1,h2,h3,h4⟩
  ·exact⟨none,0,by rw[h1,h2],.inl h2⟩
  ·exact⟨_,cap,h1,.inr ⟨g,c,rfl,h2,h3,h4⟩⟩
 rw[←hn]at hv;have hln:n≤1000000:=by omega
 have HN:=Hi hn;clear hs4 ho hn hl;go_enter Tryz.func290,Tryz.ntmps290
 go_upto_region 2 with(fail)
 obtain⟨w1,hw⟩:∃w1,((w.alloc (.cells #[.iface T v] 299)).alloc (.cells #[.nilIface] 299)).alloc (.cells (madeCells #[.nilIface] (1+n)) 136)=w1:=⟨_,rfl⟩
 rw[hw];have hb:Below w.heap.size w w1:=by rw[←hw];exact((Qab w _).alloc (by simp) _).alloc (by simp;omega) _
 have hX1:w1.heap[w.heap.size]? =some (.cells #[.iface T v] 299 (0,0)):=by rw[←hw];exact Qaf (Qaf (heap_alloc_new _ _) _) _
 have hR1:w1.heap[w.heap.size+1]? =some (.cells #[.nilIface] 299 (0,0)):=by rw[←hw];exact Qaf (Qah (by simp) _) _
 have hb1:w1.heap[w.heap.size+1+1]? =some (.cells (madeCells #[.nilIface] (1+n)) 136 (0,0)):=by rw[←hw];exact Qah (by simp) _
 clear hw hmk;have x0:w1.cell? ⟨w.heap.size,0,none⟩=some (.iface T v):=Qaa hX1 rfl;have hmc:(madeCells #[Value.nilIface] (1+n)).size=1+n:=by simp[madeCells]
 have old0:w1.cell? ⟨w.heap.size+1+1,0,none⟩=some ((madeCells #[Value.nilIface] (1+n))[0]'(by omega)):=Qaa hb1 (by simp[hmc]);have f0:w1.frozen? ⟨w.heap.size+1+1,0,none⟩=false:=Qae hb1 0;have hl1:=Qad hb1
 go_upto_region 3 with(fail)
 obtain⟨w2,hw⟩:∃w2,w1.setCell ⟨w.heap.size+1+1,0,none⟩ (.iface T v)=w2:=⟨_,rfl⟩
 rw[hw];have hb2:w2.heap[w.heap.size+1+1]? =some (.cells ((madeCells #[.nilIface] (1+n)).setIfInBounds 0 (.iface T v)) 136 (0,0)):=by rw[←hw];exact Qac hb1 _
 have hR2:w2.heap[w.heap.size+1]? =some (.cells #[.nilIface] 299 (0,0)):=by rw[←hw];exact Qag hR1 (by omega) _
 have hB2:Below w.heap.size w w2:=by rw[←hw];exact Qby hb (by omega)
 have hl2:=Qad hb2;clear hw hb hX1 hR1 hb1 x0 old0 f0
 go_upto_region 4 with(fail)
 go_loopw [20] (fun s wr=>MtRel w (w.heap.size+1) (w.heap.size+1+1) n (.iface T v) vals s wr) (fun s _=>(n-intOf s).toNat)
 case atStart=>exact⟨0,_,rfl,by omega,by simp[hmc],hb2,by rw[Array.getElem?_setIfInBounds_self_of_lt (by omega)],fun j hj=>absurd hj (Nat.not_lt_zero _),hR2,hB2,hl2⟩
 case round =>
  clear hb2 hR2 hB2 hl2 hl1;obtain⟨wo,rfl⟩:∃wo:World,wo=wr:=⟨_,rfl⟩
  obtain⟨i,c',rfl,hi,hcs,hbo,hc0,hcj,hRo,hbl,hlo⟩:=hrel;have hso:=hbl.size;by_cases hin:i<n
  ·obtain⟨T2,v2,hvv⟩:=hv i hin
   obtain⟨g,c,rfl,hg,hcap,hc⟩:=hrow.resolve_left (by omega);have hci:wo.cell? ⟨g,i,none⟩=some (.iface T2 v2):=Qaa (Bk hbl hg) ((hc i hin).trans hvv)
   go_upto_region 6 with(fail)
   obtain⟨w3,hw⟩:∃w3,wo.alloc (.cells #[.iface T2 v2] 299)=w3:=⟨_,rfl⟩
   rw[hw];have hx3:w3.cell? ⟨wo.heap.size,0,none⟩=some (.iface T2 v2):=by rw[←hw];exact Qaa (heap_alloc_new _ _) rfl
   have hb3:w3.heap[w.heap.size+1+1]? =some (.cells c' 136 (0,0)):=by rw[←hw];exact Qaf hbo _
   have hR3:w3.heap[w.heap.size+1]? =some (.cells #[.nilIface] 299 (0,0)):=by rw[←hw];exact Qaf hRo _
   have hbl3:Below w.heap.size w w3:=by rw[←hw];exact hbl.alloc (by omega) _
   have hsz:wo.heap.size<w3.heap.size:=by rw[←hw];simp
   have hold:w3.cell? ⟨w.heap.size+1+1,i+1,none⟩=some (c'[i+1]'(by omega)):=Qaa hb3 (by first | (simp[hcs];done) | (simp[hcs];omega));have hfr:w3.frozen? ⟨w.heap.size+1+1,i+1,none⟩=false:=Qae hb3 (i+1);have hend:=Qby (d:=w.heap.size+1+1) (o:=i+1) (v:=.iface T2 v2) hbl3 (by omega);have HE:=Hi (And.intro hend (And.intro (Qac (o:=i+1) hb3 (.iface T2 v2)) (Qag (d:=w.heap.size+1+1) (o:=i+1) hR3 (by omega) (.iface T2 v2))))
   clear hw hb3 hbl3 hci hbo hbl hend hR3 hRo hg hc hrow;go_wp2;go_roundw
   case rel =>
    refine⟨i+1,_,rfl,by omega,?_,HE.out.2.1,?_,fun j hj=>?_,HE.out.2.2,HE.out.1,by simp;omega⟩
    ·simp[hcs]
    ·rw[Array.getElem?_setIfInBounds_ne (by omega)];exact hc0
    ·rcases Nat.lt_or_eq_of_le (Nat.le_of_lt_succ hj)with h | rfl
     ·rw[Array.getElem?_setIfInBounds_ne (by omega)];exact hcj j h
     ·rw[Array.getElem?_setIfInBounds_self_of_lt (by omega)];simp[List.getD,hvv]
   case measure=>simp[intOf];omega
  ·obtain rfl:i=n:=by omega
   have hS:NodeIs wo base (.iface 214 (.agg #[.string name,.slice (some ⟨w.heap.size+1+1,0,none⟩) (1+i) (1+i)])) (.call name (x::l)):=by
    have h:(1+i)=(x::l).length:=by rw[List.length_cons,←HN.out];omega
    have hrowc:RowAt wo base 136 (some ⟨w.heap.size+1+1,0,none⟩) (1+i) (fun j=>match j with | 0=>.iface T v | j+1=>vals.getD j .nilIface):=by
     refine .inr ⟨_,0,c',_,rfl,by omega,hbo,fun j hj=>?_⟩;cases j with
     | zero=>simpa using hc0
     | succ j=>simpa using hcj j (by omega)
    rw[h]at hrowc ⊢;refine .call name _ _ _ _ hrowc (fun j a hj=>?_);cases j with
    | zero=>simp at hj;subst hj;exact hx.later hbl
    | succ j=>exact(hnn.later hbl).at j a (by simpa using hj)
   have HS:=Hi hS;have HR:=Hi hRo;clear hbo hc0 hcj hS hRo
   go_wp2_with fail
   refine(Qar _ _ _).mono ?_;rintro e w2⟨rfl,hb⟩;obtain⟨z1,z2,z3⟩:=Qan hb HR.out;have hE:=Qap (w:=w) (R:=w.heap.size+1) (v:=.iface 214 (.agg #[.string name,.slice (some ⟨w.heap.size+1+1,0,none⟩) (1+i) (1+i)])) (Ext.below hbl) hb (by omega);have HE:=Hi (And.intro hE ((HS.out.later hb).store (o:=0) z3.out (by decide) (.iface 214 (.agg #[.string name,.slice (some ⟨w.heap.size+1+1,0,none⟩) (1+i) (1+i)]))))
   clear hb hE;go_wp2;exact Qaq (R:=w.heap.size+1) _ 6 (by kernel_rfl) rfl rfl (Qac (o:=0) z3.out _) ⟨HE.out.1,_,_,rfl,HE.out.2⟩
theorem enter282(args:Array Value)(w:World):(callFunc 282 args).run Tryz.prog w=.ok (.enter 282 args) w:=by kernel_rfl
def MethP(base:Nat)(w:World)(r:Option Ex)(e:Ending)(w':World):Prop :=
 Below w.heap.size w w'∧match r with
 | none=>∃T v,e=.returned (.tuple #[.agg #[.nilIface],.iface T v])
 | some y=>∃T v,e=.returned (.tuple #[.agg #[.iface T v],.nilIface])∧NodeIs w' base (.iface T v) y
def zero(lhs:Ex):List Ex→Option Ex
 | []=>some (.una 210 lhs)
 | _=>none
theorem QgC{w:World}{bp base B:Nat}{ts:Toks}{s:Value}{vals:List Value}{l:List Ex}{T:TypeId}{v:Value}{x:Ex}(k:FuncId)(op:Nat)(hen:∀(args:Array Value)(w:World),(callFunc k args).run Tryz.prog w=.ok (.enter k args) w)
  (hk:∀(T U:TypeId)(x y:Value)(w:World),Calls Tryz.prog k #[.agg #[.iface T x],.agg #[.iface U y]] w (QaY w (.iface op (.agg #[.iface T x,.iface U y]))))
  (name:ByteArray)(hp:PS w bp base ts)(hbs:base≤w.heap.size)(hx:NodeIs w base (.iface T v) x)(ho:w.ownsRow B 299 1 s l.length vals)(hn:NodesIs w base vals l)(hl:l.length≤1000000) :
  Calls Tryz.prog 281 #[.pointer (some ⟨bp,0,none⟩),.string name,.func (.func k) #[.agg #[.iface T v]] #[],s] w (MethP base w (one op x l)):=by
 have HK:=Hi hk;clear hk;have hR1:(w.alloc (.cells #[.nilIface] 299)).heap[w.heap.size]? =some (.cells #[.nilIface] 299 (0,0)):=heap_alloc_new w _;have hb1:Below w.heap.size w (w.alloc (.cells #[.nilIface] 299)):=Qab w _;by_cases h1:l.length=1
 ·obtain⟨y,rfl⟩:=List.length_eq_one_iff.1 h1
  obtain⟨U,u,hu,hy⟩:=hn.2 0 y rfl;obtain⟨g,cap,c,rfl,hB,hg,hcap,_,hc⟩:=(Qes ho).resolve_left (fun h=>by simp at h);have c0:w.cell? ⟨g,0,none⟩=some (.iface U u):=Qaa hg ((hc 0 (by simp)).trans hu);have hlg:=Qad hg;clear ho hg hc;go_enter Tryz.func281,Tryz.ntmps281
  go_upto_region 1 with(fail)
  obtain⟨w1,hw⟩:∃w1,w.alloc (.cells #[.nilIface] 299)=w1:=⟨_,rfl⟩
  rw[hw]at hR1 hb1 ⊢;have c1:=QbR hb1 hlg c0;have hx1:=hx.later hb1;have hy1:=hy.later hb1;have hlt:=Qad hR1;have HR:=Hi hR1;clear hw c0 hR1
  go_wp2_with fail
  first | rw[hen,Oper.upon_enter] | skip
  refine(HK.out _ _ _ _ _).mono ?_;rintro e w2⟨rfl,hb⟩;obtain⟨z1,z2,z3⟩:=Qan hb HR.out;have hE:=Qap (w:=w) (R:=w.heap.size) (v:=.iface op (.agg #[.iface T v,.iface U u])) (Ext.below hb1) hb (by omega);have HE:=Hi (And.intro hE ((NodeIs.bin op _ _ _ _ (hx1.later hb) (hy1.later hb)).store (o:=0) z3.out (by decide) (.iface op (.agg #[.iface T v,.iface U u]))));clear hb hE c1;go_wp2;exact Qai (R:=w.heap.size) _ 8 9 (by kernel_rfl) rfl rfl rfl (Qac (o:=0) z3.out _) ⟨HE.out.1,_,_,rfl,HE.out.2⟩
 ·have hone:one op x l=none:=by
   rcases l with _ | ⟨a,_ | ⟨b,l⟩⟩
   ·rfl
   ·exact absurd rfl h1
   ·rfl
  have HO:=Hi hone;clear hone;obtain⟨n,hnn⟩:∃n,l.length=n:=⟨_,rfl⟩
  obtain⟨p,cap,rfl⟩:∃p cap,s=.slice p n cap:=by
   rcases Qes ho with⟨h,rfl⟩ | ⟨g,cap,c,rfl,_⟩
   ·exact⟨none,0,by rw[←hnn,h]⟩
   ·exact⟨_,_,by rw[hnn]⟩
  rw[hnn]at h1 hl;have h1':(n:Int)≠1:=by omega
  clear ho hnn;go_enter Tryz.func281,Tryz.ntmps281
  go_upto_region 1 with(fail)
  obtain⟨w1,hw⟩:∃w1,w.alloc (.cells #[.nilIface] 299)=w1:=⟨_,rfl⟩
  rw[hw]at hR1 hb1 ⊢;have hp1:=hp.below hb1;have hlt:=Qad hR1;have HR:=Hi hR1;clear hw hR1
  go_wp2_with fail
  refine(Qay (hp1.below (Qab _ _)) _ _).mono ?_;rintro e w2⟨T9,v9,rfl,hb9⟩;have hb:Below w1.heap.size w1 w2:=(Qab w1 _).trans (hb9.mono (by simp));obtain⟨z1,z2,z3⟩:=Qan hb HR.out;have hE:=Qap (w:=w) (R:=w.heap.size) (v:=.nilIface) (Ext.below hb1) hb (by omega);have HE:=Hi hE;clear hb hE hb9;go_wp2;refine Qai (R:=w.heap.size) _ 8 9 (by kernel_rfl) rfl rfl rfl (Qac (o:=0) z3.out _) ?_;rw[HO.out];exact⟨HE.out,_,_,rfl⟩
theorem zero_c{w:World}{bp base B:Nat}{ts:Toks}{s:Value}{vals:List Value}{l:List Ex}{T:TypeId}{v:Value}{x:Ex}
  (name:ByteArray)(hp:PS w bp base ts)(hbs:base≤w.heap.size)(hx:NodeIs w base (.iface T v) x)(ho:w.ownsRow B 299 1 s l.length vals)(hn:NodesIs w base vals l)(hl:l.length≤1000000) :
  Calls Tryz.prog 287 #[.pointer (some ⟨bp,0,none⟩),.string name,.func (.func 288) #[.agg #[.iface T v]] #[],s] w (MethP base w (zero x l)):=by
 have hR1:(w.alloc (.cells #[.nilIface] 299)).heap[w.heap.size]? =some (.cells #[.nilIface] 299 (0,0)):=heap_alloc_new w _;have hb1:Below w.heap.size w (w.alloc (.cells #[.nilIface] 299)):=Qab w _;obtain⟨n,hnn⟩:∃n,l.length=n:=⟨_,rfl⟩
 obtain⟨p,cap,rfl⟩:∃p cap,s=.slice p n cap:=by
  rcases Qes ho with⟨h,rfl⟩ | ⟨g,cap,c,rfl,_⟩
  ·exact⟨none,0,by rw[←hnn,h]⟩
  ·exact⟨_,_,by rw[hnn]⟩
 rw[hnn]at hl;clear ho;by_cases h1:n=0
 ·have hz:zero x l=some (.una 210 x):=by
   cases l with
   | nil=>rfl
   | cons a l=>simp at hnn;omega
  have HO:=Hi hz;clear hz;subst h1;go_enter Tryz.func287,Tryz.ntmps287
  go_upto_region 1 with(fail)
  obtain⟨w1,hw⟩:∃w1,w.alloc (.cells #[.nilIface] 299)=w1:=⟨_,rfl⟩
  rw[hw]at hR1 hb1 ⊢;have hx1:=hx.later hb1;have hlt:=Qad hR1;have HR:=Hi hR1;clear hw hR1 hnn
  go_wp2_with fail
  refine(n288_c _ _ _).mono ?_;rintro e w2⟨rfl,hb⟩;obtain⟨z1,z2,z3⟩:=Qan hb HR.out;have hE:=Qap (w:=w) (R:=w.heap.size) (v:=.iface 210 (.agg #[.iface T v])) (Ext.below hb1) hb (by omega);have HE:=Hi (And.intro hE ((NodeIs.una 210 _ _ (hx1.later hb)).store (o:=0) z3.out (by decide) (.iface 210 (.agg #[.iface T v]))));clear hb hE;go_wp2;refine Qai (R:=w.heap.size) _ 8 9 (by kernel_rfl) rfl rfl rfl (Qac (o:=0) z3.out _) ?_
  rw[HO.out];exact⟨HE.out.1,_,_,rfl,HE.out.2⟩
 ·have hone:zero x l=none:=by
   cases l with
   | nil=>simp at hnn;omega
   | cons a l=>rfl
  have HO:=Hi hone;clear hone;have h1':(n:Int)≠0:=by omega
  clear hnn;go_enter Tryz.func287,Tryz.ntmps287
  go_upto_region 1 with(fail)
  obtain⟨w1,hw⟩:∃w1,w.alloc (.cells #[.nilIface] 299)=w1:=⟨_,rfl⟩
  rw[hw]at hR1 hb1 ⊢;have hp1:=hp.below hb1;have hlt:=Qad hR1;have HR:=Hi hR1;clear hw hR1
  go_wp2_with fail
  refine(Qay (hp1.below (Qab _ _)) _ _).mono ?_;rintro e w2⟨T9,v9,rfl,hb9⟩;have hb:Below w1.heap.size w1 w2:=(Qab w1 _).trans (hb9.mono (by simp));obtain⟨z1,z2,z3⟩:=Qan hb HR.out;have hE:=Qap (w:=w) (R:=w.heap.size) (v:=.nilIface) (Ext.below hb1) hb (by omega);have HE:=Hi hE;clear hb hE hb9;go_wp2;refine Qai (R:=w.heap.size) _ 8 9 (by kernel_rfl) rfl rfl rfl (Qac (o:=0) z3.out _) ?_;rw[HO.out];exact⟨HE.out,_,_,rfl⟩
end Go.Proofs.Pg
