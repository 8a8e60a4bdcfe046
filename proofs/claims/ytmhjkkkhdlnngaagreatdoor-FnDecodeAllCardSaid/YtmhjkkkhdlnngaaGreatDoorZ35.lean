/- FnDecodeAll, part 35. -/
import Derived.Test.YtmhjkkkhdlnngaaGreatDoorZ33
set_option linter.all false
set_option maxRecDepth 100000
set_option maxHeartbeats 0
namespace Go.Proofs.Pg
open Go.RowKit Go.Proofs.Tryz
attribute [local go_sem] Oper.semAt_some
theorem pas_c(s:ByteArray)(hs:s.size≤800000)(w:World)(hG:WG w):Calls prog 15 #[.string s] w (PasP w (Qit lx s.data.toList)):=by
 have HPO:=Hi (fun ps (h:Qit lx s.data.toList=some ps)=>Qi4 (show s.data.toList.length≤800000 from hs) h);obtain⟨hG,hE,h15⟩:=hG;go_enter func15,ntmps15
 go_upto_region 2 with(fail)
 refine QaB fun w1 hw1=>?_
 have B1:Below w.heap.size w w1:=by rw[hw1];exact Qab w _
 have hT1:w1.heap[w.heap.size]? =some (.cells #[.slice none 0 0] 110 (0,0)):=by rw[hw1];exact Xa w _
 have hz1:w.heap.size+1=w1.heap.size:=by rw[hw1];simp
 clear hw1;have HE1:Hid (∃a,w1.cell? ⟨0,0,none⟩=some (.iface 346 (.pointer (some a)))):=Hi (by
  obtain⟨a,ha⟩:=hE;exact⟨a,(Ext.below (S:=fun _=>False) B1).cell (fun h=>h) ha⟩)
 have HG1:=Hi (hG.ext (S:=fun _=>False) (.below B1) (fun d h=>h.elim) h15);clear hG hE;have KEY:Hid (∀cp fr,s.size≤cp→cp≤maxLen→Calls prog 39 #[.pointer (some ⟨w.heap.size,0,none⟩),.slice (some ⟨w1.heap.size,0,none⟩) s.size cp] (w1.drew.alloc (.cells (bytesRow s cp) 5 fr)) (fun e w'=>Ext (·=w.heap.size) w1 w'∧match Qit lx s.data.toList with
  | none=>∃T v,e=.returned (.iface T v)
  | some ps=>e=.returned .nilIface∧∃base B ptrs p c,w'.heap[w.heap.size]? =some (.cells #[.slice p ps.length c] 110 (0,0))∧w'.ownsRow B 106 1 (.slice p ps.length c) ps.length ptrs∧PtsIs w' base ptrs ps)):=Hi (by
  intro cp fr h1 h2;have X:Ext (fun _=>False) w1 (w1.drew.alloc (.cells (bytesRow s cp) 5 fr)):=((Ext.refl _ _).drew).alloc _;have hbs:(bytesRow s cp).size=cp:=by
   have:s.data.size=s.size:=rfl;simp[bytesRow];omega
  obtain⟨a,ha⟩:=HE1.out;refine(uns_c (n:=s.size) lexC (fun s=>rfl) (X.heap id hT1) (by omega) (Xa w1.drew _) (by rw[hbs];omega) (QhZ s cp) (show s.data.toList.length=s.size from rfl) (by omega) h1 h2 (HG1.out.ext X (fun d h=>h.elim) (by omega)) ⟨a,X.cell id ha⟩ (by simp;omega)).mono ?_;rintro e w'⟨hX,h3⟩;refine⟨(X.mono (fun _ h=>h.elim)).trans hX,?_⟩;cases hp:Qit lx s.data.toList with
  | none=>rw[hp]at h3;exact h3
  | some p =>
   rw[hp]at h3;obtain⟨h4,base,B,ptrs,p,c,_,_,h5,h6,h7⟩:=h3;exact⟨h4,base,B,ptrs,p,c,h5,h6,h7⟩)
 clear HG1 HE1 hT1;have hcg:=grownCap_ge w1 s.size 0 5;have hcm:=grownCap_le_maxLen w1 s.size 0 5 (by unfold maxLen;omega)
 go_wp2_with fail
 refine(KEY.out _ _ hcg hcm).mono ?_;clear KEY hcg hcm;rintro e w2⟨X2,h2⟩;have B2:Below w.heap.size w w2:=((Ext.below (S:=fun _=>False) B1).trans' X2 (fun d hd=>.inr (by omega))).toBelow (fun _ h=>h.elim) (Xb _);have hz2:=X2.size;have HB:=Hi B2;clear B1 X2 B2;cases hp:Qit lx s.data.toList with
 | none =>
  rw[hp]at h2;obtain⟨T,v,rfl⟩:=h2;have HP:=Hi hp;clear hp
  go_wp2_with fail
  go_ret2
  rw[HP.out];exact⟨HB.out,rfl⟩
 | some ps =>
  rw[hp]at h2;obtain⟨rfl,base,B,ptrs,p,c,h3,h4,h5⟩:=h2;have hok:=HPO.out _ hp;have HOK:=Hi hok.1;have hlen:=hok.2;clear HPO hok;have HP:=Hi hp;clear hp;have c0:=Qaa (o:=0) h3 rfl;have HR:=Hi (Xc h3 (Xc h4 h5));clear h3 h4 h5;have HQ:Hid (PaRel w2 w2.heap.size ps (.slice none 0 0) (.int .i64 0) w2):=Hi ⟨0,[],rfl,Nat.zero_le _,⟨rfl,.inl ⟨rfl,rfl⟩⟩,⟨rfl,fun i a h=>by simp at h⟩,.refl _ _⟩
  go_upto_region 6 with(fail)
  go_loopw [2,17] (fun v2 v17 wr=>PaRel w2 w2.heap.size ps v2 v17 wr) (fun _ v17 _=>ps.length-(intOf v17).toNat)
  case atStart=>exact HQ.out
  case round =>
   clear HQ c0;obtain⟨i,cs,rfl,hi,hO,hPs,hBw⟩:=hrel;have HH:=Hi (Xc hO (Xc hPs hBw));have hszr:=hBw.size;obtain⟨p2,c2,rfl,_⟩:=RwU.own hO;by_cases hlt:i<ps.length
   ·obtain⟨P,hP⟩:∃P,ps[i]? =some P:=⟨ps[i],by simp[hlt]⟩
    obtain⟨tb,B',hpt,hpol⟩:=HR.out.2.2.2 i P hP;obtain⟨p',c',he',hrow⟩:=RwU.own HR.out.2.1;cases he';obtain⟨b1,o1,cc,fr,rfl,_,hb1,hc1⟩:=hrow.2.resolve_left (by omega);have q1:wr.cell? ⟨b1,o1+i,none⟩=some (.pointer (some ⟨tb,0,none⟩)):=Qaa (Bk hBw hb1) ((hc1 i (by omega)).trans hpt);have HPo:=Hi (hpol.extG (S:=fun _=>False) (.below hBw) (fun _ h=>h.elim));have HPK:=Hi (HOK.out P (List.mem_of_getElem? hP))
    have HPi:=Hi hP;clear hO hPs hBw hpol hpt hb1 hc1 hrow hP
    go_wp2_with fail
    refine(QiA HPK.out wr base B' tb 102 HPo.out).mono ?_;rintro e w3⟨B3,ds,hds,rfl⟩;have HDS:=Hi hds;have hl18:=hds.len;have h1c:=hds.one;have hst:(storeCells ⟨w3.heap.size,0,none⟩ ds 0).run prog (w3.alloc (.cells pZero 62))=.ok () (w3.alloc (.cells ds.toArray 62)):=st18 w3 pZl ds rfl hl18 h1c;have HB3:=Hi B3;have hzr3:=B3.size;clear B3 q1 hds
    go_upto_region 9 with(fail)
    refine QaB fun w4 hw4=>?_
    have B4:Below w3.heap.size w3 w4:=hw4▸Qab w3 _;have h4c:w4.heap[w3.heap.size]? =some (.cells ds.toArray 62 (0,0)):=hw4▸Xa w3 _;clear hw4 hst;have hld:=ldv18 w4 w3.heap.size ds 62 (0,0) hl18 h4c;have hbs:=bs18 w4 ds hl18;have HZ:=Hi B4;have hz34:=B4.size;clear B4 h4c
    go_upto_region 11 with(fail)
    have HO4:=Qb3 (S:=fun _=>False) HH.out.1 (.below (HB3.out.trans (HZ.out.mono hzr3))) (fun _ h=>h.elim);refine wp_region_list ?_;refine QiB rfl _ rfl ?_;refine QiC rfl 62 _ rfl (.pointer (some ⟨w3.heap.size,0,none⟩)) _ rfl hld ?_;refine wpl_bs rfl 40 1 _ rfl #[(0,.agg ds.toArray)] (by kernel_rfl) _ _ hbs ?_;refine appG sl40 rfl _ _ rfl w2.heap.size _ _ _ rfl (Qbs HO4 _) w4.heap.size ds (by rw[hl18]) rfl (fun j u hj=>Qaa (Xa w4 _) (by simpa using hj)) h1c (by unfold maxLen;omega) (by omega) (by simp;omega) ?_
    intro v9 w9 hO9 hg9 _;have HEND:=Hi (PaRel.next HPi.out HH.out.1 HH.out.2.1 HH.out.2.2 HDS.out HB3.out (HZ.out.trans ((Qab w4 _).mono hz34)) hO9 hg9);clear hO9 hg9 HO4 hld hbs hl18 h1c
    go_wp2_with fail
    go_roundw
    case rel=>exact HEND.out
    case measure=>simp[intOf];omega
   ·obtain rfl:i=ps.length:=by omega
    obtain⟨pA,cA,he,hrow⟩:=RwU.own HH.out.1;cases he;have HR2:=Hi (Xc hrow (Xc HH.out.2.1.2 HH.out.2.2));clear hO hPs hBw hrow
    go_wp2_with fail
    go_ret2
    rw[HP.out];have hz2w:=HB.out.size;refine⟨HB.out.trans (HR2.out.2.2.mono hz2w),p2,c2,rfl,cs,?_,?_⟩
    ·rw[List.length_map]
     exact HR2.out.1.mono (fun d hd=>by omega)
    ·intro i a hi
     have:=HR2.out.2.1 i a (by simpa using hi);exact this.mono (fun d hd=>by omega)
end Go.Proofs.Pg
