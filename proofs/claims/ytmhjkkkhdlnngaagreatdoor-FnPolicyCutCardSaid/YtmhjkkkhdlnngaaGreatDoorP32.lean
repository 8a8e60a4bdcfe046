/- FnPolicyCut, part 32. -/
import Derived.Test.YtmhjkkkhdlnngaaGreatDoorP14
import Derived.Test.YtmhjkkkhdlnngaaGreatDoorP30
import Derived.Test.YtmhjkkkhdlnngaaGreatDoorP31
set_option linter.all false
set_option maxRecDepth 100000
set_option maxHeartbeats 0
namespace Go.Proofs.Pg
open Go.RowKit Go.Proofs.Tryz
attribute [local go_sem] Oper.semAt_some
theorem QiD{L:Lex}{N:Nat}(hE:Sh (expr L N))(hO:OkF (expr L N)):∀(f:Nat)(acc:List Pol)(ts:Toks)(ps:List Pol),Good ts→(∀P∈acc,OkPol P)→Qiu L N f acc ts=some ps→(∀P∈ps,OkPol P)∧ps.length≤acc.length+ts.length
 | 0,_,_,_,_,_,h=>by cases h
 | f+1,acc,ts,ps,hg,ha,h=>by
  rw[Qiu]at h;split at h
  ·cases h;exact⟨ha,by omega⟩
  ·split at h
   ·cases h
   ·rename_i P us hp
    obtain⟨s1,s2⟩:=Qiy hE hg.wf hp;have:=QiD hE hO f (acc++[P]) us ps (hg.sf s1) (fun Q hQ=>by
     rcases List.mem_append.1 hQ with hQ | hQ
     ·exact ha Q hQ
     ·rw[List.mem_singleton.1 hQ];exact QhY hE hO hg hp) h
    refine⟨this.1,?_⟩;have h2:=this.2;rw[List.length_append,List.length_singleton]at h2;omega
theorem Qi4{t:List UInt8}(ht:t.length≤800000){ps:List Pol}(h:Qit lx t=some ps):(∀P∈ps,OkPol P)∧ps.length≤1000000:=by
 unfold Qit at h;cases htk:toks t with
 | none=>rw[htk]at h;cases h
 | some ts =>
  rw[htk]at h;have hg:=QhX ht htk;have:=QiD (QdZ ts.length) (QhM (fun s p hs hp=>patM_len hs hp) _) _ [] ts ps hg (fun P hP=>by cases hP) h;refine⟨this.1,?_⟩;have h2:=this.2;have h3:=hg.len;simp at h2;omega
theorem sl40:SlT prog 40 62 (.agg pZl.toArray) 18 296:=⟨by kernel_rfl,⟨Tryz.t62,by kernel_rfl,by kernel_rfl,by kernel_rfl,by kernel_rfl⟩,rfl,by decide⟩
theorem PpIs.one{w:World}{U:Nat→Prop}{cs:List Value}{P:PPol}(h:PpIs w U cs P):∀v∈cs,v.oneCell'=true:=by
 obtain⟨pn,cn,s1,s2,s3,pc,cc,cells,rfl,-,⟨p1,d1,rfl,-⟩,⟨p2,d2,rfl,-⟩,⟨p3,d3,rfl,-⟩,-⟩:=h;exact List.all_eq_true.1 rfl
def PsRows(w:World)(B:Nat)(cs:List Value)(l:List PPol):Prop:=cs.length=l.length*18∧∀(i:Nat) a,l[i]? =some a→PpIs w (B≤·) ((cs.drop (i*18)).take 18) a
def PaRel(w1:World)(B:Nat)(ps:List Pol)(v2 v17:Value)(wr:World):Prop :=
 ∃i cs,v17=.int .i64 ((i:Nat):Int)∧i≤ps.length∧wr.ownsRow B 62 18 v2 i cs∧PsRows wr B cs ((ps.take i).map Qb1)∧Below w1.heap.size w1 wr
theorem PsRows.snoc{w:World}{B:Nat}{cs ds:List Value}{l:List PPol}{a:PPol}(h:PsRows w B cs l)(hd:PpIs w (B≤·) ds a):PsRows w B (cs++ds) (l++[a]):=by
 obtain⟨hc,hi⟩:=h;have hl:=hd.len;refine⟨by simp[hc,hl];omega,fun i b hb=>?_⟩;by_cases hlt:i<l.length
 ·rw[List.getElem?_append_left hlt]at hb
  have h18:(i+1)*18≤l.length*18:=Nat.mul_le_mul_right _ hlt;rw[List.drop_append_of_le_length (by omega),List.take_append_of_le_length (by rw[List.length_drop];omega)];exact hi i b hb
 ·have h0:i=l.length:=by
   have:=(List.getElem?_eq_some_iff.1 hb).1;simp at this;omega
  subst h0;simp at hb;subst hb;rw[List.drop_append,List.drop_eq_nil_of_le (by omega),hc,Nat.sub_self,List.nil_append,List.drop_zero,List.take_of_length_le (by omega)];exact hd
theorem PsRows.grow{w w':World}{B:Nat}{cs:List Value}{l:List PPol}{v:Value}{n:Nat}{xs:List Value}(h:PsRows w B cs l)(ho:w.ownsRow B 62 18 v n xs)(hg:w.grownBy w' v.ownBlock):PsRows w' B cs l:=⟨h.1,fun i a hi=>(h.2 i a hi).extT (QaF ho hg) (fun d c T fr hd hT hk=>by
 obtain⟨c',hc'⟩:=Qi1 ho hk;rw[hc']at hd;cases hd;exact hT rfl)⟩
theorem PpIs.grow{w w':World}{U:Nat→Prop}{B:Nat}{cs:List Value}{a:PPol}{v:Value}{n:Nat}{xs:List Value}(h:PpIs w U cs a)(ho:w.ownsRow B 62 18 v n xs)(hg:w.grownBy w' v.ownBlock):PpIs w' U cs a:=h.extT (QaF ho hg) (fun d c T fr hd hT hk=>by
 obtain⟨c',hc'⟩:=Qi1 ho hk;rw[hc']at hd;cases hd;exact hT rfl)
theorem PsRows.after{w w':World}{B:Nat}{cs:List Value}{l:List PPol}(h:PsRows w B cs l)(hb:Below w.heap.size w w'):PsRows w' B cs l:=⟨h.1,fun i a hi=>(h.2 i a hi).after hb⟩
theorem PaRel.next{w2 wr w3 w5 w9:World}{ps:List Pol}{i:Nat}{P:Pol}{v v9:Value}{cs ds:List Value}(hi:ps[i]? =some P)(hO:wr.ownsRow w2.heap.size 62 18 v i cs)(hP:PsRows wr w2.heap.size cs ((ps.take i).map Qb1))(hB:Below w2.heap.size w2 wr)
  (hD:PpIs w3 (wr.heap.size≤·) ds (Qb1 P))(h3:Below wr.heap.size wr w3)(h5:Below w3.heap.size w3 w5)(hO9:w9.ownsRow w2.heap.size 62 18 v9 (i+1) (cs++ds))(hg:w5.grownBy w9 v.ownBlock):PaRel w2 w2.heap.size ps v9 (.int .i64 ((i:Int)+1)) w9:=by
 have hB5:Below wr.heap.size wr w5:=h3.trans (h5.mono h3.size);have hO5:=Qb3 (S:=fun _=>False) hO (.below hB5) (fun _ h=>h.elim);have hil:=(List.getElem?_eq_some_iff.1 hi).1;have hz:=hB.size;have hP9:=((hP.after hB5).grow hO5 hg).snoc ((((hD.after h5).mono (U':=(w2.heap.size≤·)) (fun d hd=>by omega)).grow hO5 hg));refine⟨i+1,cs++ds,rfl,hil,hO9,?_,?_⟩
 ·rw[List.take_add_one,hi]
  simpa using hP9
 ·exact((Ext.below (S:=fun _=>False) (hB.trans (hB5.mono hz))).trans' (QaF hO5 hg) (fun d hd=>.inr (Qa5 hO5 hd).1)).toBelow (fun _ h=>h.elim) (Xb _)
def PasP(w:World)(R:Option (List Pol))(e:Ending)(w':World):Prop:=Below w.heap.size w w'∧match R with
 | none=>e=.returned (.tuple #[.slice none 0 0,.bool false])
 | some ps=>∃p c,e=.returned (.tuple #[.slice p ps.length c,.bool true])∧PosIs w' (w.heap.size≤·) p (ps.map Qb1)
theorem pas_c(s:ByteArray)(hs:s.size≤800000)(w:World)(hG:WG w):Calls prog 15 #[.string s] w (PasP w (Qit lx s.data.toList)):=by
 have HPO:=Hi (fun ps (h:Qit lx s.data.toList=some ps)=>Qi4 (show s.data.toList.length≤800000 from hs) h);obtain⟨hG,hE,h15⟩:=hG;go_enter func15,ntmps15
 go_upto_region 2 with(fail)
 refine QaB fun w1 hw1=>?_
 have B1:Below w.heap.size w w1:=by rw[hw1];exact Qab w _
 have hT1:w1.heap[w.heap.size]? =some (.cells #[.slice none 0 0] 110 (0,0)):=by rw[hw1];exact Xa w _
 have hz1:w.heap.size+1=w1.heap.size:=by rw[hw1];simp
 clear hw1;have HE1:Hid (∃a,w1.cell? ⟨0,0,none⟩=some (.iface 346 (.pointer (some a)))):=Hi (by
  obtain⟨a,ha⟩:=hE;exact⟨a,(Ext.below (S:=fun _=>False) B1).cell (fun h=>h) ha⟩)
 have HG1:=Hi (hG.ext (S:=fun _=>False) (.below B1) (fun d h=>h.elim) h15);clear hG hE;have KEY:Hid (∀cp fr,s.size≤cp→cp≤maxLen→Calls prog 39 #[.pointer (some ⟨w.heap.size,0,none⟩),.slice (some ⟨w1.heap.size,0,none⟩) s.size cp] (w1.drew.alloc (.cells (bytesRow s cp) 5 fr)) (fun e w'=>Ext (·=w.heap.size) w1 w'∧match Qit lx s.data.toList with
  | none=>∃T v,e=.returned (.iface T v)
  | some ps=>e=.returned .nilIface∧∃base B ptrs p c,w'.heap[w.heap.size]? =some (.cells #[.slice p ps.length c] 110 (0,0))∧w'.ownsRow B 106 1 (.slice p ps.length c) ps.length ptrs∧PtsIs w' base ptrs ps)):=Hi (by
  intro cp fr h1 h2;have X:Ext (fun _=>False) w1 (w1.drew.alloc (.cells (bytesRow s cp) 5 fr)):=((Ext.refl _ _).drew).alloc _;have hbs:(bytesRow s cp).size=cp:=by
   have:s.data.size=s.size:=rfl;simp[bytesRow];omega
  obtain⟨a,ha⟩:=HE1.out;refine(uns_c (n:=s.size) lexC (fun s=>rfl) (X.heap id hT1) (by omega) (Xa w1.drew _) (by rw[hbs];omega) (QhZ s cp) (show s.data.toList.length=s.size from rfl) (by omega) h1 h2 (HG1.out.ext X (fun d h=>h.elim) (by omega)) ⟨a,X.cell id ha⟩ (by simp;omega)).mono ?_;rintro e w'⟨hX,h3⟩;refine⟨(X.mono (fun _ h=>h.elim)).trans hX,?_⟩;cases hp:Qit lx s.data.toList with
  | none=>rw[hp]at h3;exact h3
  | some p =>
   rw[hp]at h3;obtain⟨h4,base,B,ptrs,p,c,_,_,h5,h6,h7⟩:=h3;exact⟨h4,base,B,ptrs,p,c,h5,h6,h7⟩)
 clear HG1 HE1 hT1;have hcg:=grownCap_ge w1 s.size 0 5;have hcm:=grownCap_le_maxLen w1 s.size 0 5 (by unfold maxLen;omega)
 go_wp2_with fail
 refine(KEY.out _ _ hcg hcm).mono ?_;clear KEY hcg hcm;rintro e w2⟨X2,h2⟩;have B2:Below w.heap.size w w2:=((Ext.below (S:=fun _=>False) B1).trans' X2 (fun d hd=>.inr (by omega))).toBelow (fun _ h=>h.elim) (Xb _);have hz2:=X2.size;have HB:=Hi B2;clear B1 X2 B2;cases hp:Qit lx s.data.toList with
 | none =>
  rw[hp]at h2;obtain⟨T,v,rfl⟩:=h2;have HP:=Hi hp;clear hp
  go_wp2_with fail
  go_ret2
  rw[HP.out];exact⟨HB.out,rfl⟩
 | some ps =>
  rw[hp]at h2;obtain⟨rfl,base,B,ptrs,p,c,h3,h4,h5⟩:=h2;have hok:=HPO.out _ hp;have HOK:=Hi hok.1;have hlen:=hok.2;clear HPO hok;have HP:=Hi hp;clear hp;have c0:=Qaa (o:=0) h3 rfl;have HR:=Hi (Xc h3 (Xc h4 h5));clear h3 h4 h5;have HQ:Hid (PaRel w2 w2.heap.size ps (.slice none 0 0) (.int .i64 0) w2):=Hi ⟨0,[],rfl,Nat.zero_le _,⟨rfl,.inl ⟨rfl,rfl⟩⟩,⟨rfl,fun i a h=>by simp at h⟩,.refl _ _⟩
  go_upto_region 6 with(fail)
  go_loopw [2,17] (fun v2 v17 wr=>PaRel w2 w2.heap.size ps v2 v17 wr) (fun _ v17 _=>ps.length-(intOf v17).toNat)
  case atStart=>exact HQ.out
  case round =>
   clear HQ c0;obtain⟨i,cs,rfl,hi,hO,hPs,hBw⟩:=hrel;have HH:=Hi (Xc hO (Xc hPs hBw));have hszr:=hBw.size;obtain⟨p2,c2,rfl,_⟩:=RwU.own hO;by_cases hlt:i<ps.length
   ·obtain⟨P,hP⟩:∃P,ps[i]? =some P:=⟨ps[i],by simp[hlt]⟩
    obtain⟨tb,B',hpt,hpol⟩:=HR.out.2.2.2 i P hP;obtain⟨p',c',he',hrow⟩:=RwU.own HR.out.2.1;cases he';obtain⟨b1,o1,cc,fr,rfl,_,hb1,hc1⟩:=hrow.2.resolve_left (by omega);have q1:wr.cell? ⟨b1,o1+i,none⟩=some (.pointer (some ⟨tb,0,none⟩)):=Qaa (Bk hBw hb1) ((hc1 i (by omega)).trans hpt);have HPo:=Hi (hpol.extG (S:=fun _=>False) (.below hBw) (fun _ h=>h.elim));have HPK:=Hi (HOK.out P (List.mem_of_getElem? hP))
    have HPi:=Hi hP;clear hO hPs hBw hpol hpt hb1 hc1 hrow hP
    go_wp2_with fail
    refine(policy38 HPK.out wr base B' tb 102 HPo.out).mono ?_;rintro e w3⟨B3,ds,hds,rfl⟩;have HDS:=Hi hds;have hl18:=hds.len;have h1c:=hds.one;have hst:(storeCells ⟨w3.heap.size,0,none⟩ ds 0).run prog (w3.alloc (.cells pZero 62))=.ok () (w3.alloc (.cells ds.toArray 62)):=st18 w3 pZl ds rfl hl18 h1c;have HB3:=Hi B3;have hzr3:=B3.size;clear B3 q1 hds
    go_upto_region 9 with(fail)
    refine QaB fun w4 hw4=>?_
    have B4:Below w3.heap.size w3 w4:=hw4▸Qab w3 _;have h4c:w4.heap[w3.heap.size]? =some (.cells ds.toArray 62 (0,0)):=hw4▸Xa w3 _;clear hw4 hst;have hld:=ldv18 w4 w3.heap.size ds 62 (0,0) hl18 h4c;have hbs:=bs18 w4 ds hl18;have HZ:=Hi B4;have hz34:=B4.size;clear B4 h4c
    go_upto_region 11 with(fail)
    have HO4:=Qb3 (S:=fun _=>False) HH.out.1 (.below (HB3.out.trans (HZ.out.mono hzr3))) (fun _ h=>h.elim);refine wp_region_list ?_;refine wpl_move rfl _ rfl ?_;refine wpl_load rfl 62 _ rfl (.pointer (some ⟨w3.heap.size,0,none⟩)) _ rfl hld ?_;refine wpl_bs rfl 40 1 _ rfl #[(0,.agg ds.toArray)] (by kernel_rfl) _ _ hbs ?_;refine appG sl40 rfl _ _ rfl w2.heap.size _ _ _ rfl (Qbs HO4 _) w4.heap.size ds (by rw[hl18]) rfl (fun j u hj=>Qaa (Xa w4 _) (by simpa using hj)) h1c (by unfold maxLen;omega) (by omega) (by simp;omega) ?_
    intro v9 w9 hO9 hg9 _;have HEND:=Hi (PaRel.next HPi.out HH.out.1 HH.out.2.1 HH.out.2.2 HDS.out HB3.out (HZ.out.trans ((Qab w4 _).mono hz34)) hO9 hg9);clear hO9 hg9 HO4 hld hbs hl18 h1c
    go_wp2_with fail
    go_roundw
    case rel=>exact HEND.out
    case measure=>simp[intOf];omega
   ·obtain rfl:i=ps.length:=by omega
    obtain⟨pA,cA,he,hrow⟩:=RwU.own HH.out.1;cases he;have HR2:=Hi (Xc hrow (Xc HH.out.2.1.2 HH.out.2.2));clear hO hPs hBw hrow
    go_wp2_with fail
    go_ret2
    rw[HP.out];have hz2w:=HB.out.size;refine⟨HB.out.trans (HR2.out.2.2.mono hz2w),p2,c2,rfl,cs,?_,?_⟩
    ·rw[List.length_map]
     exact HR2.out.1.mono (fun d hd=>by omega)
    ·intro i a hi
     have:=HR2.out.2.1 i a (by simpa using hi);exact this.mono (fun d hd=>by omega)
def QjY(t:Tok):Itk:=⟨t.ty,t.tx,t.off,t.ln,t.col⟩
def TokP(w:World)(n:Nat)(r:Option (List Tok))(e:Ending)(w':World):Prop:=Below w.heap.size w w'∧match r with
 | none=>e=.returned (.tuple #[.slice none 0 0,.bool false])
 | some ts=>∃p cap,e=.returned (.tuple #[.slice p ts.length cap,.bool true])∧ItIs w' p (ts.map QjY)∧ts.length≤n+5
theorem itok_c(s:ByteArray)(hs:s.size≤800000)(w:World)(hG:WG w):Calls prog 29 #[.string s] w (TokP w s.size (toks s.data.toList)):=by
 obtain⟨hG,hE,h15⟩:=hG;have KEY:Hid (∀cp fr,s.size≤cp→cp≤maxLen→Calls prog 46 #[.slice (some ⟨w.heap.size,0,none⟩) s.size cp] ((w.alloc (.cells (bytesRow s cp) 5 fr)).drew) (fun e w'=>Below w.heap.size w w'∧w.heap.size<w'.heap.size∧match toks s.data.toList with
  | none=>∃T v,e=.returned (.tuple #[.slice none 0 0,.iface T v])
  | some ts=>∃g cap,e=.returned (.tuple #[.slice (some ⟨g,0,none⟩) ts.length cap,.nilIface])∧(∃cur,w'.heap[g]? =some (.cells cur 122 (0,0))∧cur.toList.take (ts.length*6)=rows ts)∧(∀k∈ts,k.tx.size≤1000000)∧ts.length≤s.size+5)):=Hi (by
  intro cp fr h1 h2;have X:Ext (fun _=>False) w ((w.alloc (.cells (bytesRow s cp) 5 fr)).drew):=((Ext.refl _ _).alloc _).drew;have hbs:(bytesRow s cp).size=cp:=by
   have:s.data.size=s.size:=rfl;simp[bytesRow];omega
  have hwz:w.heap.size<((w.alloc (.cells (bytesRow s cp) 5 fr)).drew).heap.size:=by show _<(w.alloc _).heap.size;simp
  obtain⟨a,ha⟩:=hE;refine(tokz_c (t:=s.data.toList) (n:=s.size) (show((w.alloc (.cells (bytesRow s cp) 5 fr)).drew).heap[w.heap.size]? =_ from Xa w _) (by rw[hbs];omega) (QhZ s cp) (show s.data.toList.length=s.size from rfl) (by omega) h1 h2 (Qbg hG.tabs X (fun h=>h) (fun h=>h)) ⟨a,X.cell id ha⟩ (by omega)).mono ?_;rintro e w'⟨hX,h3⟩;refine⟨(X.trans' hX (fun d hd=>.inr (by omega))).toBelow (fun _ h=>h.elim) (Xb _),Nat.lt_of_lt_of_le hwz hX.size,?_⟩
  cases hp:toks s.data.toList with
  | none =>
   rw[hp]at h3;obtain⟨T,v,h3⟩:=h3;exact⟨T,v.1,h3⟩
  | some ts =>
   rw[hp]at h3;obtain⟨g,cap,h4,_,h5,h6,h7⟩:=h3;exact⟨g,cap,h4,h5,h6,h7⟩)
 clear hG hE;have hcg:=grownCap_ge w s.size 0 5;have hcm:=grownCap_le_maxLen w s.size 0 5 (by unfold maxLen;omega);go_enter func29,ntmps29
 go_wp2_with fail
 refine(KEY.out _ _ hcg hcm).mono ?_;clear KEY hcg hcm;rintro e w2⟨B2,hz2,h2⟩;have HB:=Hi B2;clear B2;cases hp:toks s.data.toList with
 | none =>
  rw[hp]at h2;obtain⟨T,v,rfl⟩:=h2;have HP:=Hi hp;clear hp
  go_wp2_with fail
  go_ret2
  rw[HP.out];exact⟨HB.out,rfl⟩
 | some ts =>
  rw[hp]at h2;obtain⟨g,cap,rfl,⟨cur,hg,hr⟩,hsz,hlen⟩:=h2;have HP:=Hi hp;clear hp;have HG:=Hi hg;have HR:=Hi hr;have HSZ:=Hi hsz;have hgl:=Qad hg;clear hg hr hsz
  go_wp2_with fail
  generalize hZ:w2.heap.size=Z at *
  go_loopw [2,18] (fun s2 s18 wr=>∃i:Nat,s18=.int .i64 i∧i≤ts.length∧Hid (wr.ownsRow Z 76 5 s2 i (Qjm ((ts.take i).map QjY))∧Below Z w2 wr)) (fun _ s18 _=>ts.length-(intOf s18).toNat)
  case atStart=>exact⟨0,rfl,Nat.zero_le _,Hi ⟨World.ownsRow_nil _ _ _ _,hZ▸Below.refl _ _⟩⟩
  case round =>
   obtain⟨i,rfl,hi,HJ⟩:=hrel;by_cases hil:i<ts.length
   ·have h1:(i:Int)<(ts.length:Int):=by omega
    obtain⟨t,ht⟩:∃t,ts[i]? =some t:=⟨ts[i],by simp[hil]⟩
    have hgw:wr.heap[g]? =some (.cells cur 122 (0,0)):=(HJ.out.2.block g (by omega)).trans HG.out;obtain⟨q0,q1,q2,q3,q4,q5,_⟩:=QhU hgw HR.out HSZ.out i t ht;have hzw:Z≤wr.heap.size:=hZ▸HJ.out.2.size;clear hgw
    go_upto_region 7 with(fail)
    generalize hw3:wr.alloc (.cells t.row 122 (0,0))=w3;replace hw3:=hw3.symm;have hb3:w3.heap[wr.heap.size]? =some (.cells t.row 122 (0,0)):=by rw[hw3];exact Xa wr _
    have B3:Below wr.heap.size wr w3:=by rw[hw3];exact Qab wr _
    have hz3:wr.heap.size<w3.heap.size:=by rw[hw3];simp
    clear hw3 q0 q1 q2 q3 q4 q5;have hO3:=Qaj (S:=fun _=>False) HJ.out.1 (.below B3) (fun _ h=>h.elim);have HB3:=Hi (HJ.out.2.trans (B3.mono hzw));clear HJ B3;generalize wr.heap.size=tb at *;have k0:w3.cell? ⟨tb,0,none⟩=some (.int .i64 t.ty):=Qaa hb3 rfl;have k2:w3.cell? ⟨tb,2,none⟩=some (.int .i64 t.off):=Qaa hb3 rfl;have k3:w3.cell? ⟨tb,3,none⟩=some (.int .i64 t.ln):=Qaa hb3 rfl;have k4:w3.cell? ⟨tb,4,none⟩=some (.int .i64 t.col):=Qaa hb3 rfl
    have k5:w3.cell? ⟨tb,5,none⟩=some (.string t.tx):=Qaa hb3 rfl;clear hb3;have n0:∀j u,[.int .i64 t.ty,.string t.tx,.int .i64 t.off,.int .i64 t.ln,.int .i64 t.col][j]? =some u→(w3.alloc (.cells #[.int .i64 t.ty,.string t.tx,.int .i64 t.off,.int .i64 t.ln,.int .i64 t.col] 76)).cell? ⟨w3.heap.size,j,none⟩=some u:=by
     intro j u hj;exact Qaa (Xa _ _) (by simpa using hj)
    have hOa:=Qaj (S:=fun _=>False) hO3 (.below (Qab w3 (.cells #[.int .i64 t.ty,.string t.tx,.int .i64 t.off,.int .i64 t.ln,.int .i64 t.col] 76))) (fun _ h=>h.elim);clear hO3
    go_wp2_with(at_builtin;refine appG sl72 rfl _ _ rfl Z _ _ _ rfl hOa _ [.int .i64 t.ty,.string t.tx,.int .i64 t.off,.int .i64 t.ln,.int .i64 t.col] rfl rfl n0 (fun v hv=>by simp at hv;rcases hv with rfl | rfl | rfl | rfl | rfl<;>rfl) (by unfold maxLen;omega) (by omega) (by simp;omega) ?_)
    intro v9 w9 hO9 hg9 hnn;have hXg:=(QaF hOa hg9).mono (S':=fun d=>Z≤d) (fun d hd=>(Qa5 hOa hd).1);have hO:w9.ownsRow Z 76 5 v9 (i+1) (Qjm ((ts.take (i+1)).map QjY)):=by rw[List.take_add_one,ht,Option.toList_some,List.map_append,List.map_singleton,Qjw,List.map_take];exact hO9
    have hX9:Ext (fun d=>Z≤d) w3 w9:=((Ext.refl _ _).alloc _).trans hXg;have HJ9:Hid (w9.ownsRow Z 76 5 v9 (i+1) (Qjm ((ts.take (i+1)).map QjY))∧Below Z w2 w9):=Hi ⟨hO,HB3.out.trans (hX9.toBelow (fun d hd=>hd) (by omega))⟩;clear hO9 hg9 hnn n0 hOa hO hX9 hXg k0 k2 k3 k4 k5
    go_wp2_with fail
    go_roundw
    case rel=>exact⟨i+1,by go_num,by omega,HJ9⟩
    case measure=>simp[intOf];omega
   ·have h1:¬(i:Int)<(ts.length:Int):=by omega
    go_wp2_with fail
    go_ret2
    rw[HP.out];obtain rfl:i=ts.length:=by omega
    have hO:=HJ.out.1;rw[List.take_length,show ts.length=(ts.map QjY).length by simp]at hO;obtain⟨p,cp,rfl,_,_,hI⟩:=Qka hO;refine⟨HB.out.trans (HJ.out.2.mono (hZ▸HB.out.size)),p,cp,?_,hI,hlen⟩;rw[List.length_map];rfl
def YesP(w:World)(e:Ending)(w':World):Prop:=e=.returned (.bool true)∧Below w.heap.size w w'
def lit1:List UInt8:=[112,101,114,109,105,116,40,112,114,105,110,99,105,112,97,108,44,97,99,116,105,111,110,44,114,101,115,111,117,114,99,101,41,59]
theorem QkA:(Qit lx lit1).map (fun l=>l.length)=some 1:=by kernel_rfl
theorem lit_one:∃P0,Qit lx lit1=some [P0]:=by
 have h:=QkA;cases hp:Qit lx lit1 with
 | none=>rw[hp]at h;cases h
 | some ps =>
  rw[hp]at h;have h2:=Xd h
  match ps,h2 with
  | [P0],_=>exact⟨P0,rfl⟩
theorem QkB(w:World)(hG:WG w):Calls prog 23 #[] w (YesP w):=by
 have HD:Hid (Calls prog 15 #[.string ⟨lit1.toArray⟩] w (PasP w (Qit lx lit1))):=Hi (pas_c ⟨lit1.toArray⟩ (by decide) w hG);clear hG;go_enter func23,ntmps23
 go_wp2_with fail
 refine HD.out.mono ?_;rintro e w2⟨B2,h2⟩;obtain⟨P0,hps⟩:=lit_one;rw[hps]at h2;obtain⟨p,c,rfl,_⟩:=h2;have HB:=Hi B2;clear HD B2
 go_wp2_with fail
 go_ret;exact⟨rfl,HB.out⟩
theorem WG.later{w w':World}(h:WG w)(hb:Below w.heap.size w w'):WG w':=by
 obtain⟨h1,⟨a,h2⟩,h3⟩:=h;exact⟨h1.same (fun b hl=>hb.block b (by omega)),⟨a,(hb.cell (p:=⟨0,0,none⟩) (show 0<w.heap.size by omega)).trans h2⟩,Xe h3 hb.size⟩
theorem fnCut_c(s:ByteArray)(x:Nat)(hx:x<65536)(w:World)(hG:WG w):Calls prog 9 #[.string s,.int .u16 (x:Int)] w (YesP w):=by
 have HG:=Hi hG;clear hG;go_enter func9,ntmps9;by_cases g1:2147483647<s.size
 ·have g1':(2147483647:Int)<(s.size:Int):=by omega
  go_wp2_with fail
  go_ret;exact⟨rfl,.refl _ _⟩
 have g1':¬(2147483647:Int)<(s.size:Int):=by omega
 go_wp2_with fail
 refine(asked_c s (by omega) w HG.out.1.tabs HG.out.2.2).mono ?_;rintro e w1⟨⟨b,rfl,hb⟩,B1⟩;have HB1:=Hi B1;clear B1;cases b with
 | false =>
  go_wp2_with fail
  go_ret;exact⟨rfl,HB1.out⟩
 | true =>
 have h3:=hb rfl;clear hb;have HG1:=Hi (HG.out.later HB1.out);clear HG
 go_wp2_with fail
 refine(pas_c s (by omega) w1 HG1.out).mono ?_;rintro e w2⟨B2,h2⟩;have HG2:=Hi (HG1.out.later B2);have HB2:=Hi (HB1.out.trans (B2.mono HB1.out.size));clear B2 HG1 HB1;have HTK:=Hi (itok_c s (by omega) w2 HG2.out);cases hR:Qit lx s.data.toList with
 | none =>
  rw[hR]at h2;subst h2;have HR:=Hi hR;clear hR
  go_wp2_with fail
  refine HTK.out.mono ?_;rintro e w3⟨B3,h3'⟩;have HG3:=Hi (HG2.out.later B3);have HB3:=Hi (HB2.out.trans (B3.mono HB2.out.size));clear B3 HG2 HB2 HTK;have hcase:∃p n cap k,e=.returned (.tuple #[.slice p n cap,.bool k]):=by
   cases ht:toks s.data.toList with
   | none=>rw[ht]at h3';exact⟨_,_,_,_,h3'⟩
   | some ts=>rw[ht]at h3';obtain⟨p,cap,h,_⟩:=h3';exact⟨_,_,_,_,h⟩
  clear h3';obtain⟨p,n,cap,k,rfl⟩:=hcase
  go_wp2_with fail
  refine(QkB w3 HG3.out).mono ?_;rintro e w4⟨rfl,B4⟩;have HB4:=Hi (HB3.out.trans (B4.mono HB3.out.size));clear B4
  go_wp2_with fail
  go_ret;exact⟨rfl,HB4.out⟩
 | some ps =>
  rw[hR]at h2;obtain⟨p2,c2,rfl,_⟩:=h2;obtain⟨ts,ht⟩:∃ts,toks s.data.toList=some ts:=by
   cases ht:toks s.data.toList with
   | none=>unfold Qit at hR;rw[ht]at hR;cases hR
   | some ts=>exact⟨ts,rfl⟩
  have HR:=Hi hR;clear hR;have HTS:=Hi ht
  go_wp2_with fail
  refine HTK.out.mono ?_;rintro e w3⟨B3,h3'⟩;rw[ht]at h3';obtain⟨p3,c3,rfl,hI,hle⟩:=h3';have HI:=Hi hI;have HG3:=Hi (HG2.out.later B3);have HB3:=Hi (HB2.out.trans (B3.mono HB2.out.size));clear B3 HG2 HB2 HTK ht hI;by_cases h1:ps.length=1∧3≤ts.length
  ·obtain⟨h1,hlen⟩:=h1
   have g2:((ps.length:Int) != 1)=false:=by simp[h1]
   have g3:¬(ts.length:Int)<3:=by omega
   have g4:((ts.length:Int)-2)≠0:=by omega
   have g5:((ts.length:Int)-2==0)=false:=by simp;omega
   obtain⟨k,hk1,hk2,hk3⟩:∃k:Nat,1+(x:Int)%((ts.length:Int)-2)=(k:Int)∧1≤k∧k+2≤ts.length:=by
    have hp:(0:Int)<(ts.length:Int)-2:=by omega
    have h6:=Int.emod_nonneg (x:Int) g4;have h7:=Int.emod_lt_of_pos (x:Int) hp;exact⟨(1+(x:Int)%((ts.length:Int)-2)).toNat,by omega,by omega,by omega⟩
   obtain⟨t,htk⟩:∃t,ts[k]? =some t:=⟨ts[k],by rw[List.getElem?_eq_getElem]⟩
   obtain⟨o,hto,htl⟩:∃o:Nat,t.off=(o:Int)∧o<s.size:=by
    obtain⟨l,e,hl,_,_,hall⟩:=Qkg HTS.out;have hlm:t∈l:=by
     rw[hl,List.getElem?_append_left (by rw[hl]at hk3;simp at hk3;omega)]at htk;exact List.mem_of_getElem? htk
    exact(hall t hlm).2.2
   obtain⟨g,rfl,_,_,c0⟩:=HI.out.cell (i:=k) (t:=QjY t) (by rw[List.getElem?_map,htk];rfl);rw[show(QjY t).off=t.off from rfl,hto]at c0;have hcut:=cut_law HTS.out HR.out h1 hk2 hk3 htk hto;have HPS:=Hi (pas_c (s.extract 0 o) (by rw[ByteArray.size_extract];omega) w3 HG3.out);have hkl:(k:Int)<(ts.length:Int):=by omega
   have he:(s.extract 0 o).data.toList=s.data.toList.take o:=by
    rw[ByteArray.data_extract,Array.toList_extract,List.extract_eq_take_drop];simp
   rw[he,hcut]at HPS;clear hcut he htk hto
   go_upto_region 11 with(fail)
   refine HPS.out.mono ?_;rintro e w4⟨B4,rfl⟩;have HB4:=Hi (HB3.out.trans (B4.mono HB3.out.size));clear B4
   go_wp2_with fail
   go_ret;exact⟨rfl,HB4.out⟩
  ·have HRD:=Hi (QkB w3 HG3.out)
   by_cases h1:ps.length=1
   ·have g2:((ps.length:Int) != 1)=false:=by simp[h1]
    have g3:(ts.length:Int)<3:=by omega
    go_wp2_with fail
    refine HRD.out.mono ?_;rintro e w4⟨rfl,B4⟩;have HB4:=Hi (HB3.out.trans (B4.mono HB3.out.size));clear B4
    go_wp2_with fail
    go_ret;exact⟨rfl,HB4.out⟩
   ·have g2:((ps.length:Int) != 1)=true:=by simp;omega
    go_wp2_with fail
    refine HRD.out.mono ?_;rintro e w4⟨rfl,B4⟩;have HB4:=Hi (HB3.out.trans (B4.mono HB3.out.size));clear B4
    go_wp2_with fail
    go_ret;exact⟨rfl,HB4.out⟩
end Go.Proofs.Pg
