/- FnPolicyCut, part 21. -/
import Derived.Test.YtmhjkkkhdlnngaaGreatDoorP19
set_option linter.all false
set_option maxRecDepth 100000
set_option maxHeartbeats 0
namespace Go.Proofs.Pg
open Go.RowKit Go.Proofs.Tryz
attribute [local go_sem] Oper.semAt_some
def effM(ts:Toks):Option (Bool×Toks):=if(tx ts==[112,101,114,109,105,116])=true then some (true,adv ts)else if(tx ts==[102,111,114,98,105,100])=true then some (false,adv ts)else none
def EffP(bp base:Nat)(s:Value)(w:World)(r:Option (Bool×Toks))(e:Ending)(w':World):Prop :=
 Ext (·=bp) w w'∧match r with
 | none=>∃T,∃v:EVal base w' T,e=.returned (.tuple #[.pointer none,.iface T v.1])
 | some (b,us)=>∃pb,e=.returned (.tuple #[.pointer (some ⟨pb,0,none⟩),.nilIface])∧w.heap.size≤pb∧Qa8 w' pb (.bool b) s allV allV allV (.slice none 0 0) (.string ⟨#[]⟩) (.int .i64 0) (.int .i64 0) (.int .i64 0)∧PS w' bp base us
theorem effect_w{bp base ab n c:Nat}{p:Option Addr}(w:World)(ts:Toks)(hp:PS w bp base ts)(hwf:Wf ts)(hbs:base≤w.heap.size)(hab:base≤ab)(ha:w.heap[ab]? =some (.cells #[.slice p n c] 223 (0,0))) :
  Calls prog 69 #[.pointer (some ⟨bp,0,none⟩),.pointer (some ⟨ab,0,none⟩)] w (EffP bp base (.slice p n c) w (effM ts)):=by
 have hbb:=hp.hbp;have h15:=hp.h15;have hlen:=hp.len;have ltA:=Qad ha;have hA_w:=ha;clear ha;obtain⟨u,q,rfl⟩:∃u q,ts=u::q:=by cases ts with | nil=>exact absurd rfl hp.ne | cons u q=>exact⟨u,q,rfl⟩
 have hwa:=hwf.adv;go_enter func69,ntmps69
 go_wp2_with fail
 refine(Qaz hp).mono ?_;rintro e w1⟨rfl,hp1,hF⟩;have hA1:=hF.heap (by omega) hA_w;have hs1:=hF.size;have hX1:Ext (·=bp) w w1:=hF;clear hA_w hp;clear hF
 go_upto_region 2 with(fail)
 obtain⟨w2,hw⟩:∃w2,w1.alloc (.cells u.row 122)=w2:=⟨_,rfl⟩
 rw[hw];have hF:Below w1.heap.size w1 w2:=by rw[←hw];exact Qab _ _
 have hK2:w2.heap[w1.heap.size]? =some (.cells u.row 122 (0,0)):=by rw[←hw];exact Xa _ _
 have hs2:w1.heap.size+1≤w2.heap.size:=by rw[←hw];simp
 clear hw;have hA2:=Bk hF hA1;have hX2:=hX1.trans (.below hF);have hp2:=hp1.below hF;clear hA1 hX1 hp1;clear hF;have c_hK_5:=Qaa (o:=5) hK2 rfl;cases ht:(u.tx.toList==[112,101,114,109,105,116])with
 | true =>
  go_wp2_with fail
  refine(permit_c hA2).mono ?_;rintro e w3⟨pb,rfl,hpb,hP,hF⟩;have hpN:=hp2.below hF;have hXN:=hX2.trans (.below hF);have HP:=Hi hP;have HR:=Hi (show effM (u::q)=some (true,adv (u::q))by simp[effM,tx,ht]);clear hP hF hA2 hK2;go_wp2
  go_ret2
  rw[HR.out];exact⟨hXN,pb,rfl,by omega,HP.out,hpN⟩
 | false =>
  have h_p:=ht;clear ht;cases ht:(u.tx.toList==[102,111,114,98,105,100])with
  | true =>
   go_wp2_with fail
   refine(forbid_c hA2).mono ?_;rintro e w3⟨pb,rfl,hpb,hP,hF⟩;have hpN:=hp2.below hF;have hXN:=hX2.trans (.below hF);have HP:=Hi hP;have HR:=Hi (show effM (u::q)=some (false,adv (u::q))by simp[effM,tx,h_p,ht]);clear hP hF hA2 hK2;go_wp2
   go_ret2
   rw[HR.out];exact⟨hXN,pb,rfl,by omega,HP.out,hpN⟩
  | false =>
   go_wp2_with fail
   refine(Qay (hp2.below (Qab _ _)) _ _).mono ?_;rintro e w3⟨T9,v9,rfl,hF0⟩;have hF:=(Qab w2 (.cells #[.iface 9 (.string u.tx)] 20)).trans (hF0.mono (by simp));clear hF0;have hA3:=Bk hF hA2;have hK3:=Bk hF hK2;have hs3:=hF.size;have hX3:=hX2.trans (.below hF);have hp3:=hp2.below hF;clear hA2 hK2 hX2 hp2 c_hK_5;clear hF;have HR:=Hi (show effM (u::q)=none by simp[effM,tx,h_p,ht]);go_wp2
   go_ret2
   rw[HR.out];exact⟨hX3,_,_,rfl⟩
theorem Qdi(l:List (ByteArray×ByteArray))(k:ByteArray):((l.map (·.1)).any fun x=>k.toList==x.toList)=l.any fun p=>p.1.toList==k.toList:=by
 rw[List.any_map]
 congr 1
 funext p
 show(k.toList==p.1.toList)=(p.1.toList==k.toList);exact Bool.beq_comm
def note(L:Lex)(acc:List (ByteArray×ByteArray))(ts:Toks):Option ((ByteArray×ByteArray)×Toks) :=
 if(ty ts==1)=true∨(ty ts==3)=true then
  (if(acc.any fun p=>p.1.toList==(hd ts).tx.toList)=true then none
  else if(tx (adv ts)==[40])=true then
   (if(ty (adv (adv ts))==4)=true then(match L.str (hd (adv (adv ts))).tx with
    | none=>none
    | some s=>match exact [41] (adv (adv (adv ts)))with
     | none=>none
     | some us=>some (((hd ts).tx,s),us))else none)
  else some (((hd ts).tx,⟨#[]⟩),adv ts))
 else none
def NS(bp ab kb B d:Nat):Prop:=d=bp∨d=ab∨d=kb∨B≤d
def NoteP(bp base ab kb B:Nat)(acc:List (ByteArray×ByteArray))(w:World)(r:Option ((ByteArray×ByteArray)×Toks))(e:Ending)(w':World):Prop :=
 Ext (NS bp ab kb B) w w'∧match r with
 | none=>(∃T,∃v:EVal base w' T,e=.returned (.iface T v.1))∧w'.heap[ab]? =w.heap[ab]?
 | some (n,us)=>e=.returned .nilIface∧PS w' bp base us∧∃s',w'.heap[ab]? =some (.cells #[s'] 223 (0,0))∧w'.ownsRow B 133 2 s' (acc.length+1) (Qav (acc++[n]))∧MsIs w' B kb ((acc++[n]).map (·.1))
theorem MsIs.extT{w w':World}{B bx tb:Nat}{keys:List ByteArray}(h:MsIs w B bx keys)(he:Ext (·=tb) w w'){c:Array Value}{T:TypeId}{fr:Nat×Nat}(ht:w.heap[tb]? =some (.cells c T fr))(hT:T≠283):MsIs w' B bx keys:=by
 rcases h with⟨h1,h2⟩ | ⟨b,h1,h2,h3⟩
 ·exact .inl ⟨h1,he.heap (fun h=>by subst h;rw[h2]at ht;cases ht;exact hT rfl) h2⟩
 ·exact .inr ⟨b,he.heap (fun h=>by subst h;rw[h1]at ht;cases ht;exact hT rfl) h1,h2,he.heap (fun h=>by subst h;unfold Qb0 at h3;rw[h3]at ht;cases ht) h3⟩
theorem note_w{L:Lex}(hL:LexC L){bp base ab kb B:Nat}{s:Value}{acc:List (ByteArray×ByteArray)}(w:World)(ts:Toks)(hp:PS w bp base ts)(hwf:Wf ts)(hB:base≤B)(hBw:B≤w.heap.size)(hab:base≤ab)(hkb:base≤kb)(habB:ab<B)(hkbB:kb<B)(hak:ab≠kb)
  (ha:w.heap[ab]? =some (.cells #[s] 223 (0,0)))(ho:w.ownsRow B 133 2 s acc.length (Qav acc))(hs:MsIs w B kb (acc.map (·.1)))(hl:acc.length≤1000000) :
  Calls prog 92 #[.pointer (some ⟨bp,0,none⟩),.pointer (some ⟨ab,0,none⟩),.pointer (some ⟨kb,0,none⟩)] w (NoteP bp base ab kb B acc w (note L acc ts)):=by
 have hbb:=hp.hbp;have h15:=hp.h15;have hlen:=hp.len;have ltA:=Qad ha;have HL:=Hi hL;clear hL;have hA_w:=ha;have hO_w:=ho;have hS_w:=hs;clear ha ho hs;have HA0:=Hi hA_w;obtain⟨u,q,rfl⟩:∃u q,ts=u::q:=by cases ts with | nil=>exact absurd rfl hp.ne | cons u q=>exact⟨u,q,rfl⟩
 have htz:=hp.sz;have hwa:=hwf.adv;go_enter func92,ntmps92
 go_wp2_with fail
 refine(Qaz hp).mono ?_;rintro e w1⟨rfl,hp1,hF⟩;have hS1:=hS_w.ext hF (fun d hd=>by subst hd;omega);have hA1:=hF.heap (by omega) hA_w;have hO1:=Qaj hO_w hF (fun d hd=>by omega);have hs1:=hF.size;have hX1:Ext (·=bp) w w1:=hF;clear hA_w hO_w hp hS_w;clear hF
 go_wp2_with fail
 obtain⟨w2,hw⟩:∃w2,w1.alloc (.cells u.row 122)=w2:=⟨_,rfl⟩
 rw[hw];have hF:Below w1.heap.size w1 w2:=by rw[←hw];exact Qab _ _
 have hT2:w2.heap[w1.heap.size]? =some (.cells u.row 122 (0,0)):=by rw[←hw];exact Xa _ _
 have hs2:w1.heap.size+1≤w2.heap.size:=by rw[←hw];simp
 clear hw;have hS2:=hS1.later hF;have hA2:=Bk hF hA1;have hO2:=Qaj (S:=fun _=>False) hO1 (.below hF) (fun _ h=>h.elim);have hX2:=hX1.trans (.below hF);have hp2:=hp1.below hF;clear hA1 hO1 hX1 hp1 hS1;clear hF;have ltA2:=Qad hA2;have hXm2:=hX2.mono (S':=NS bp ab kb B) (fun d k=>.inl k);clear hXm2;obtain⟨c_hT_0,c_hT_1,c_hT_2,c_hT_3,c_hT_4,c_hT_5⟩:=Cl6 hT2 rfl rfl rfl rfl rfl rfl
 go_wp2_with fail
 refine(Qbd u _).mono ?_;rintro e w3⟨rfl,hF⟩;have hS3:=hS2.later hF;have hA3:=Bk hF hA2;have hT3:=Bk hF hT2;have hO3:=Qaj (S:=fun _=>False) hO2 (.below hF) (fun _ h=>h.elim);have hs3:=hF.size;have hX3:=hX2.trans (.below hF);have hp3:=hp2.below hF;clear hA2 hT2 hO2 hX2 hp2 c_hT_0 c_hT_1 c_hT_2 c_hT_3 c_hT_4 c_hT_5 hS2;clear hF;cases hi:(u.ty==1)with
 | true =>
  have c_hT_5:=Qaa (o:=5) hT3 rfl;obtain⟨vx,hvx,hmv⟩:=hS3.val;have c_S:=Qaa (o:=0) hvx rfl;clear hvx
  go_wp2_with fail
  refine(QcT hmv u.tx).mono ?_;rintro e w4⟨rfl,hF⟩;have hS4:=hS3.later hF;have hA4:=Bk hF hA3;have hT4:=Bk hF hT3;have hO4:=Qaj (S:=fun _=>False) hO3 (.below hF) (fun _ h=>h.elim);have hs4:=hF.size;have hX4:=hX3.trans (.below hF);have hp4:=hp3.below hF;clear hA3 hT3 hO3 hX3 hp3 c_hT_5 c_S hS3;clear hF;clear hmv;rw[Qdi];cases hdup:(acc.any fun p=>p.1.toList==u.tx.toList)with
  | true =>
   go_wp2_with fail
   refine(Qay (hp4.below (Qab _ _)) _ _).mono ?_;rintro e w5⟨T9,v9,rfl,hF0⟩;have hF:=(Qab w4 (.cells #[.iface 9 (.string u.tx)] 20)).trans (hF0.mono (by simp));clear hF0;have hS5:=hS4.later hF;have hA5:=Bk hF hA4;have hT5:=Bk hF hT4;have hO5:=Qaj (S:=fun _=>False) hO4 (.below hF) (fun _ h=>h.elim);have hs5:=hF.size;have hX5:=hX4.trans (.below hF);have hp5:=hp4.below hF;clear hA4 hT4 hO4 hX4 hp4 hS4
   clear hF;have HR:=Hi (show note L acc (u::q)=none by unfold note;simp only[ty,hd,tx,Xf,or_true,true_or,or_self,or_false,false_or,if_true,if_false,hi,hdup]);have HAN:=Hi hA5;clear hA5;go_wp2;go_ret;rw[HR.out];exact⟨hX5.mono (fun d k=>.inl k),⟨_,_,rfl⟩,HAN.out.trans HA0.out.symm⟩
  | false =>
   have hak2:((acc.map (·.1)).any fun y=>u.tx.toList==y.toList)=false:=by rw[Qdi];exact hdup
   go_wp2_with fail
   refine(add_c hS4 (by omega) u.tx hak2).mono ?_;rintro e w5⟨rfl,hS5,hF⟩;clear hak2;have hbx:=hS4.box;clear hS4;have hO5:=Qcc hO4 hF (fun d hd c fr h=>absurd (Qbw hbx hd h) (by decide));have hsm:∀d,SM B kb w4 d→d=kb∨B≤d:=fun d hd=>by rcases hd with rfl | ⟨h,_⟩<;>omega
   have hp5:=hp4.ext hF (fun d hd=>by have:=hsm d hd;omega);have hs5:=hF.size;have hA5:w5.heap[ab]? =some (.cells #[s] 223 (0,0)):=hF.heap (fun hd=>absurd (Qbw hbx hd hA4) (by decide)) hA4;have hT5:w5.heap[w1.heap.size]? =some (.cells u.row 122 (0,0)):=hF.heap (fun hd=>absurd (Qbw hbx hd hT4) (by decide)) hT4;have hXQ:Ext (NS bp ab kb B) w w5:=(hX4.mono (fun d k=>.inl k)).trans (hF.mono (fun d k=>(hsm d k).elim (fun h=>.inr (.inr (.inl h))) (fun h=>.inr (.inr (.inr h)))))
   have HXQ:=Hi hXQ;clear hF hsm hbx hXQ;clear hA4 hO4 hT4 hp4 hX4;obtain⟨u2,q2,ha2⟩:∃a b,adv (u::q)=a::b:=by
    cases h:adv (u::q)with
    | nil=>rw[h]at hwa;exact absurd rfl hwa.ne
    | cons a b=>exact⟨a,b,rfl⟩
   rw[ha2]at hwa hp5;have HA2:=Hi ha2;clear ha2;have hwb:=hwa.adv
   go_wp2_with fail
   refine(Qa7 hp5).mono ?_;rintro e w6⟨rfl,hF⟩;have hS6:=hS5.later hF;have hA6:=Bk hF hA5;have hT6:=Bk hF hT5;have hO6:=Qaj (S:=fun _=>False) hO5 (.below hF) (fun _ h=>h.elim);have hs6:=hF.size;have hX6:Ext (·=bp) w5 w6:=.below hF;have hp6:=hp5.below hF;clear hA5 hT5 hO5 hp5 hS5;clear hF;cases hj:(u2.tx.toList==[40])with
   | false =>
    go_wp2_with fail
    refine(ann_c (v:=(⟨#[]⟩:ByteArray)) hA6 hO6 hdup hl (by omega)).mono ?_;rintro e w7⟨rfl,s',hA',hO',hF⟩;have hlo:∀d,(d=ab∨s.ownBlock=some d)→d=ab∨B≤d:=fun d hd=>hd.imp id (fun h=>(Qa5 hO6 h).1)
    have hS':MsIs w7 B kb (acc.map (·.1)++[u.tx]):=by
     rcases hS6 with⟨h1,h2⟩ | ⟨b,h1,h2,h3⟩
     ·exact .inl ⟨h1,hF.heap (fun h=>by rcases h with rfl | h;exact hak rfl;obtain⟨_,c,hc⟩:=Qa5 hO6 h;rw[h2]at hc;cases hc) h2⟩
     ·exact .inr ⟨b,hF.heap (fun h=>by rcases h with rfl | h;exact hak rfl;obtain⟨_,c,hc⟩:=Qa5 hO6 h;rw[h1]at hc;cases hc) h1,h2,hF.heap (fun h=>by rcases h with rfl | h;omega;obtain⟨_,c,hc⟩:=Qa5 hO6 h;unfold Qb0 at h3;rw[h3]at hc;cases hc) h3⟩
    have hp':=hp6.ext hF (fun d hd=>by have:=hlo d hd;omega);have hX':=(HXQ.out.trans (hX6.mono (fun d k=>.inl k))).trans (hF.mono (fun d k=>(hlo d k).elim (fun h=>Or.inr (.inl h)) (fun h=>.inr (.inr (.inr h)))));have HZ:=Hi hA';have HR:=Hi (show note L acc (u::q)=some ((u.tx,⟨#[]⟩),u2::q2)by unfold note;simp only[ty,hd,tx,Xf,or_true,true_or,or_self,or_false,false_or,if_true,if_false,hi,hdup,HA2.out,hj])
    clear hA' hF hlo;go_wp2;go_ret;rw[HR.out];exact⟨hX',rfl,hp',s',HZ.out,hO',by rw[List.map_append];exact hS'⟩
   | true =>
    go_wp2_with fail
    refine(Qaz hp6).mono ?_;rintro e w7⟨rfl,hp7,hF⟩;have hS7:=hS6.ext hF (fun d hd=>by subst hd;omega);have hA7:=hF.heap (by omega) hA6;have hT7:=hF.heap (by omega) hT6;have hO7:=Qaj hO6 hF (fun d hd=>by omega);have hs7:=hF.size;have hX7:=hX6.trans hF;clear hA6 hT6 hO6 hX6 hp6 hS6;clear hF;obtain⟨u3,q3,ha3⟩:∃a b,adv (u2::q2)=a::b:=by
     cases h:adv (u2::q2)with
     | nil=>rw[h]at hwb;exact absurd rfl hwb.ne
     | cons a b=>exact⟨a,b,rfl⟩
    rw[ha3]at hwb hp7;have HA3:=Hi ha3;clear ha3;have hwc:=hwb.adv;have htz3:=hp7.sz
    go_wp2_with fail
    refine(Qaz hp7).mono ?_;rintro e w8⟨rfl,hp8,hF⟩;have hS8:=hS7.ext hF (fun d hd=>by subst hd;omega);have hA8:=hF.heap (by omega) hA7;have hT8:=hF.heap (by omega) hT7;have hO8:=Qaj hO7 hF (fun d hd=>by omega);have hs8:=hF.size;have hX8:=hX7.trans hF;clear hA7 hT7 hO7 hX7 hp7 hS7;clear hF;obtain⟨c_hT_0,c_hT_1,c_hT_2,c_hT_3,c_hT_4,c_hT_5⟩:=Cl6 hT8 rfl rfl rfl rfl rfl rfl;have f_hT:=Qae hT8 0;have f_hT1:=Qae hT8 1
    have f_hT2:=Qae hT8 2;have f_hT3:=Qae hT8 3;have f_hT4:=Qae hT8 4;have f_hT5:=Qae hT8 5
    go_upto_region 12 with(fail)
    obtain⟨w9,hw⟩:∃w9,((((((w8.setCell ⟨w1.heap.size,0,none⟩ (.int .i64 u3.ty)).setCell ⟨w1.heap.size,1,none⟩ (.string u3.fn)).setCell ⟨w1.heap.size,2,none⟩ (.int .i64 u3.off)).setCell ⟨w1.heap.size,3,none⟩ (.int .i64 u3.ln)).setCell ⟨w1.heap.size,4,none⟩ (.int .i64 u3.col)).setCell ⟨w1.heap.size,5,none⟩ (.string u3.tx))=w9:=⟨_,rfl⟩
    rw[hw];have hXT:Ext (·=w1.heap.size) w8 w9:=by rw[←hw];exact((((((Ext.refl (·=w1.heap.size) w8).set (p:=⟨w1.heap.size,0,none⟩) (.inl rfl) (.int .i64 u3.ty)).set (p:=⟨w1.heap.size,1,none⟩) (.inl rfl) (.string u3.fn)).set (p:=⟨w1.heap.size,2,none⟩) (.inl rfl) (.int .i64 u3.off)).set (p:=⟨w1.heap.size,3,none⟩) (.inl rfl) (.int .i64 u3.ln)).set (p:=⟨w1.heap.size,4,none⟩) (.inl rfl) (.int .i64 u3.col)).set (p:=⟨w1.heap.size,5,none⟩) (.inl rfl) (.string u3.tx)
    have hT9:w9.heap[w1.heap.size]? =some (.cells u3.row 122 (0,0)):=by rw[←hw];exact Qac (o:=5) (Qac (o:=4) (Qac (o:=3) (Qac (o:=2) (Qac (o:=1) (Qac (o:=0) (hT8) (.int .i64 u3.ty)) (.string u3.fn)) (.int .i64 u3.off)) (.int .i64 u3.ln)) (.int .i64 u3.col)) (.string u3.tx)
    have hA9:=hXT.heap (by omega) hA8;have hS9:=hS8.extT hXT hT8 (by decide);have hO9:=Qcc hO8 hXT (fun d hd c fr h=>by subst hd;rw[hT8]at h;cases h);have hp9:=hp8.ext hXT (fun d k=>by subst k;omega);have hs9:=hXT.size;have HXR:=Hi ((HXQ.out.trans (hX8.mono (fun d k=>.inl k))).trans (hXT.mono (S':=NS bp ab kb B) (fun d k=>by subst k;exact .inr (.inr (.inr (by omega))))));clear hw hXT;clear hA8 hS8 hO8 hT8 hp8 hX8 c_hT_0 c_hT_1 c_hT_2 c_hT_3 c_hT_4 c_hT_5 f_hT f_hT1 f_hT2 f_hT3 f_hT4 f_hT5
    obtain⟨c_hT_0,c_hT_1,c_hT_2,c_hT_3,c_hT_4,c_hT_5⟩:=Cl6 hT9 rfl rfl rfl rfl rfl rfl
    go_wp2_with fail
    refine(QbY u3 _).mono ?_;rintro e w10⟨rfl,hF⟩;have hS10:=hS9.later hF;have hA10:=Bk hF hA9;have hT10:=Bk hF hT9;have hO10:=Qaj (S:=fun _=>False) hO9 (.below hF) (fun _ h=>h.elim);have hs10:=hF.size;have hX10:Ext (·=bp) w9 w10:=.below hF;have hp10:=hp9.below hF;clear hA9 hT9 hO9 hp9 c_hT_0 c_hT_1 c_hT_2 c_hT_3 c_hT_4 c_hT_5 hS9;clear hF;cases hk4:(u3.ty==4)with
    | false =>
     go_wp2_with fail
     refine(Qay hp10 _ _).mono ?_;rintro e w11⟨T9,v9,rfl,hF⟩;have hS11:=hS10.later hF;have hA11:=Bk hF hA10;have hT11:=Bk hF hT10;have hO11:=Qaj (S:=fun _=>False) hO10 (.below hF) (fun _ h=>h.elim);have hs11:=hF.size;have hX11:=hX10.trans (.below hF);have hp11:=hp10.below hF;clear hA10 hT10 hO10 hX10 hp10 hS10;clear hF;have HR:=Hi (show note L acc (u::q)=none by unfold note;simp only[ty,hd,tx,Xf,or_true,true_or,or_self,or_false,false_or,if_true,if_false,hi,hdup,HA2.out,hj,HA3.out,hk4])
     have HAN:=Hi hA11;clear hA11;go_wp2;go_ret;rw[HR.out];exact⟨HXR.out.trans (hX11.mono (fun d k=>.inl k)),⟨_,_,rfl⟩,HAN.out.trans HA0.out.symm⟩
    | true =>
     obtain⟨c_hT_0,c_hT_1,c_hT_2,c_hT_3,c_hT_4,c_hT_5⟩:=Cl6 hT10 rfl rfl rfl rfl rfl rfl
     go_wp2_with fail
     refine(HL.out.str u3 _ hp10.g (by omega) htz3 hp10.hbs).mono ?_;rintro e w11⟨hF,hr⟩;have hS11:=hS10.later hF;have hA11:=Bk hF hA10;have hT11:=Bk hF hT10;have hO11:=Qaj (S:=fun _=>False) hO10 (.below hF) (fun _ h=>h.elim);have hs11:=hF.size;have hX11:=hX10.trans (.below hF);have hp11:=hp10.below hF;clear hA10 hT10 hO10 hX10 hp10 c_hT_0 c_hT_1 c_hT_2 c_hT_3 c_hT_4 c_hT_5 hS10;clear hF;cases hm:L.str u3.tx with
     | none =>
      rw[hm]at hr;obtain⟨s9,T9,v9,rfl⟩:=hr;have HR:=Hi (show note L acc (u::q)=none by unfold note;simp only[ty,hd,tx,Xf,or_true,true_or,or_self,or_false,false_or,if_true,if_false,hi,hdup,HA2.out,hj,HA3.out,hk4,hm]);have HAN:=Hi hA11;clear hA11;go_wp2;go_ret;rw[HR.out];exact⟨HXR.out.trans (hX11.mono (fun d k=>.inl k)),⟨_,_,rfl⟩,HAN.out.trans HA0.out.symm⟩
     | some sv =>
      rw[hm]at hr;obtain⟨rfl,hsz⟩:=hr;have HM:=Hi hm;clear hm;obtain⟨u4,q4,ha4⟩:∃a b,adv (u3::q3)=a::b:=by
       cases h:adv (u3::q3)with
       | nil=>rw[h]at hwc;exact absurd rfl hwc.ne
       | cons a b=>exact⟨a,b,rfl⟩
      rw[ha4]at hwc hp11;have HA4:=Hi ha4;clear ha4;cases hl4:(u4.tx.toList==[41])with
      | false =>
       go_wp2_with fail
       refine(Qa9 hp11 hl4).mono ?_;rintro e w12⟨T9,v9,rfl,hp12,hF⟩;have hS12:=hS11.ext hF (fun d hd=>by subst hd;omega);have hA12:=hF.heap (by omega) hA11;have hT12:=hF.heap (by omega) hT11;have hO12:=Qaj hO11 hF (fun d hd=>by omega);have hs12:=hF.size;have hX12:=hX11.trans hF;clear hA11 hT11 hO11 hX11 hp11 hS11;clear hF;have HR:=Hi (show note L acc (u::q)=none by unfold note;simp only[ty,hd,tx,Xf,or_true,true_or,or_self,or_false,false_or,if_true,if_false,hi,hdup,HA2.out,hj,HA3.out,hk4,HM.out,HA4.out,exact,hl4])
       have HAN:=Hi hA12;clear hA12;go_wp2;go_ret;rw[HR.out];exact⟨HXR.out.trans (hX12.mono (fun d k=>.inl k)),⟨_,_,rfl⟩,HAN.out.trans HA0.out.symm⟩
      | true =>
       go_wp2_with fail
       refine(Qa0 hp11 hl4).mono ?_;rintro e w12⟨rfl,hp12,hF⟩;have hS12:=hS11.ext hF (fun d hd=>by subst hd;omega);have hA12:=hF.heap (by omega) hA11;have hT12:=hF.heap (by omega) hT11;have hO12:=Qaj hO11 hF (fun d hd=>by omega);have hs12:=hF.size;have hX12:=hX11.trans hF;clear hA11 hT11 hO11 hX11 hp11 hS11;clear hF
       go_wp2_with fail
       refine(ann_c (v:=sv) hA12 hO12 hdup hl (by omega)).mono ?_;rintro e w13⟨rfl,s',hA',hO',hF⟩;have hlo:∀d,(d=ab∨s.ownBlock=some d)→d=ab∨B≤d:=fun d hd=>hd.imp id (fun h=>(Qa5 hO12 h).1)
       have hS':MsIs w13 B kb (acc.map (·.1)++[u.tx]):=by
        rcases hS12 with⟨h1,h2⟩ | ⟨b,h1,h2,h3⟩
        ·exact .inl ⟨h1,hF.heap (fun h=>by rcases h with rfl | h;exact hak rfl;obtain⟨_,c,hc⟩:=Qa5 hO12 h;rw[h2]at hc;cases hc) h2⟩
        ·exact .inr ⟨b,hF.heap (fun h=>by rcases h with rfl | h;exact hak rfl;obtain⟨_,c,hc⟩:=Qa5 hO12 h;rw[h1]at hc;cases hc) h1,h2,hF.heap (fun h=>by rcases h with rfl | h;omega;obtain⟨_,c,hc⟩:=Qa5 hO12 h;unfold Qb0 at h3;rw[h3]at hc;cases hc) h3⟩
       have hp':=hp12.ext hF (fun d hd=>by have:=hlo d hd;omega);have hX':=(HXR.out.trans (hX12.mono (fun d k=>.inl k))).trans (hF.mono (fun d k=>(hlo d k).elim (fun h=>Or.inr (.inl h)) (fun h=>.inr (.inr (.inr h)))));have HZ:=Hi hA';have HR:=Hi (show note L acc (u::q)=some ((u.tx,sv),adv (u4::q4))by unfold note;simp only[ty,hd,tx,Xf,or_true,true_or,or_self,or_false,false_or,if_true,if_false,hi,hdup,HA2.out,hj,HA3.out,hk4,HM.out,HA4.out,exact,hl4])
       clear hA' hF hlo;go_wp2;go_ret;rw[HR.out];exact⟨hX',rfl,hp',s',HZ.out,hO',by rw[List.map_append];exact hS'⟩
 | false =>
  obtain⟨c_hT_0,c_hT_1,c_hT_2,c_hT_3,c_hT_4,c_hT_5⟩:=Cl6 hT3 rfl rfl rfl rfl rfl rfl
  go_wp2_with fail
  refine(isRes_c u _).mono ?_;rintro e w4⟨rfl,hF⟩;have hS4:=hS3.later hF;have hA4:=Bk hF hA3;have hT4:=Bk hF hT3;have hO4:=Qaj (S:=fun _=>False) hO3 (.below hF) (fun _ h=>h.elim);have hs4:=hF.size;have hX4:=hX3.trans (.below hF);have hp4:=hp3.below hF;clear hA3 hT3 hO3 hX3 hp3 c_hT_0 c_hT_1 c_hT_2 c_hT_3 c_hT_4 c_hT_5 hS3;clear hF;cases hi3:(u.ty==3)with
  | true =>
   have c_hT_5:=Qaa (o:=5) hT4 rfl;obtain⟨vx,hvx,hmv⟩:=hS4.val;have c_S:=Qaa (o:=0) hvx rfl;clear hvx
   go_wp2_with fail
   refine(QcT hmv u.tx).mono ?_;rintro e w5⟨rfl,hF⟩;have hS5:=hS4.later hF;have hA5:=Bk hF hA4;have hT5:=Bk hF hT4;have hO5:=Qaj (S:=fun _=>False) hO4 (.below hF) (fun _ h=>h.elim);have hs5:=hF.size;have hX5:=hX4.trans (.below hF);have hp5:=hp4.below hF;clear hA4 hT4 hO4 hX4 hp4 c_hT_5 c_S hS4;clear hF;clear hmv;rw[Qdi];cases hdup:(acc.any fun p=>p.1.toList==u.tx.toList)with
   | true =>
    go_wp2_with fail
    refine(Qay (hp5.below (Qab _ _)) _ _).mono ?_;rintro e w6⟨T9,v9,rfl,hF0⟩;have hF:=(Qab w5 (.cells #[.iface 9 (.string u.tx)] 20)).trans (hF0.mono (by simp));clear hF0;have hS6:=hS5.later hF;have hA6:=Bk hF hA5;have hT6:=Bk hF hT5;have hO6:=Qaj (S:=fun _=>False) hO5 (.below hF) (fun _ h=>h.elim);have hs6:=hF.size;have hX6:=hX5.trans (.below hF);have hp6:=hp5.below hF;clear hA5 hT5 hO5 hX5 hp5 hS5
    clear hF;have HR:=Hi (show note L acc (u::q)=none by unfold note;simp only[ty,hd,tx,Xf,or_true,true_or,or_self,or_false,false_or,if_true,if_false,hi,hi3,hdup]);have HAN:=Hi hA6;clear hA6;go_wp2;go_ret;rw[HR.out];exact⟨hX6.mono (fun d k=>.inl k),⟨_,_,rfl⟩,HAN.out.trans HA0.out.symm⟩
   | false =>
    have hak2:((acc.map (·.1)).any fun y=>u.tx.toList==y.toList)=false:=by rw[Qdi];exact hdup
    go_wp2_with fail
    refine(add_c hS5 (by omega) u.tx hak2).mono ?_;rintro e w6⟨rfl,hS6,hF⟩;clear hak2;have hbx:=hS5.box;clear hS5;have hO6:=Qcc hO5 hF (fun d hd c fr h=>absurd (Qbw hbx hd h) (by decide));have hsm:∀d,SM B kb w5 d→d=kb∨B≤d:=fun d hd=>by rcases hd with rfl | ⟨h,_⟩<;>omega
    have hp6:=hp5.ext hF (fun d hd=>by have:=hsm d hd;omega);have hs6:=hF.size;have hA6:w6.heap[ab]? =some (.cells #[s] 223 (0,0)):=hF.heap (fun hd=>absurd (Qbw hbx hd hA5) (by decide)) hA5;have hT6:w6.heap[w1.heap.size]? =some (.cells u.row 122 (0,0)):=hF.heap (fun hd=>absurd (Qbw hbx hd hT5) (by decide)) hT5;have hXQ:Ext (NS bp ab kb B) w w6:=(hX5.mono (fun d k=>.inl k)).trans (hF.mono (fun d k=>(hsm d k).elim (fun h=>.inr (.inr (.inl h))) (fun h=>.inr (.inr (.inr h)))))
    have HXQ:=Hi hXQ;clear hF hsm hbx hXQ;clear hA5 hO5 hT5 hp5 hX5;obtain⟨u2,q2,ha2⟩:∃a b,adv (u::q)=a::b:=by
     cases h:adv (u::q)with
     | nil=>rw[h]at hwa;exact absurd rfl hwa.ne
     | cons a b=>exact⟨a,b,rfl⟩
    rw[ha2]at hwa hp6;have HA2:=Hi ha2;clear ha2;have hwb:=hwa.adv
    go_wp2_with fail
    refine(Qa7 hp6).mono ?_;rintro e w7⟨rfl,hF⟩;have hS7:=hS6.later hF;have hA7:=Bk hF hA6;have hT7:=Bk hF hT6;have hO7:=Qaj (S:=fun _=>False) hO6 (.below hF) (fun _ h=>h.elim);have hs7:=hF.size;have hX7:Ext (·=bp) w6 w7:=.below hF;have hp7:=hp6.below hF;clear hA6 hT6 hO6 hp6 hS6;clear hF;cases hj:(u2.tx.toList==[40])with
    | false =>
     go_wp2_with fail
     refine(ann_c (v:=(⟨#[]⟩:ByteArray)) hA7 hO7 hdup hl (by omega)).mono ?_;rintro e w8⟨rfl,s',hA',hO',hF⟩;have hlo:∀d,(d=ab∨s.ownBlock=some d)→d=ab∨B≤d:=fun d hd=>hd.imp id (fun h=>(Qa5 hO7 h).1)
     have hS':MsIs w8 B kb (acc.map (·.1)++[u.tx]):=by
      rcases hS7 with⟨h1,h2⟩ | ⟨b,h1,h2,h3⟩
      ·exact .inl ⟨h1,hF.heap (fun h=>by rcases h with rfl | h;exact hak rfl;obtain⟨_,c,hc⟩:=Qa5 hO7 h;rw[h2]at hc;cases hc) h2⟩
      ·exact .inr ⟨b,hF.heap (fun h=>by rcases h with rfl | h;exact hak rfl;obtain⟨_,c,hc⟩:=Qa5 hO7 h;rw[h1]at hc;cases hc) h1,h2,hF.heap (fun h=>by rcases h with rfl | h;omega;obtain⟨_,c,hc⟩:=Qa5 hO7 h;unfold Qb0 at h3;rw[h3]at hc;cases hc) h3⟩
     have hp':=hp7.ext hF (fun d hd=>by have:=hlo d hd;omega);have hX':=(HXQ.out.trans (hX7.mono (fun d k=>.inl k))).trans (hF.mono (fun d k=>(hlo d k).elim (fun h=>Or.inr (.inl h)) (fun h=>.inr (.inr (.inr h)))));have HZ:=Hi hA';have HR:=Hi (show note L acc (u::q)=some ((u.tx,⟨#[]⟩),u2::q2)by unfold note;simp only[ty,hd,tx,Xf,or_true,true_or,or_self,or_false,false_or,if_true,if_false,hi,hi3,hdup,HA2.out,hj])
     clear hA' hF hlo;go_wp2;go_ret;rw[HR.out];exact⟨hX',rfl,hp',s',HZ.out,hO',by rw[List.map_append];exact hS'⟩
    | true =>
     go_wp2_with fail
     refine(Qaz hp7).mono ?_;rintro e w8⟨rfl,hp8,hF⟩;have hS8:=hS7.ext hF (fun d hd=>by subst hd;omega);have hA8:=hF.heap (by omega) hA7;have hT8:=hF.heap (by omega) hT7;have hO8:=Qaj hO7 hF (fun d hd=>by omega);have hs8:=hF.size;have hX8:=hX7.trans hF;clear hA7 hT7 hO7 hX7 hp7 hS7;clear hF;obtain⟨u3,q3,ha3⟩:∃a b,adv (u2::q2)=a::b:=by
      cases h:adv (u2::q2)with
      | nil=>rw[h]at hwb;exact absurd rfl hwb.ne
      | cons a b=>exact⟨a,b,rfl⟩
     rw[ha3]at hwb hp8;have HA3:=Hi ha3;clear ha3;have hwc:=hwb.adv;have htz3:=hp8.sz
     go_wp2_with fail
     refine(Qaz hp8).mono ?_;rintro e w9⟨rfl,hp9,hF⟩;have hS9:=hS8.ext hF (fun d hd=>by subst hd;omega);have hA9:=hF.heap (by omega) hA8;have hT9:=hF.heap (by omega) hT8;have hO9:=Qaj hO8 hF (fun d hd=>by omega);have hs9:=hF.size;have hX9:=hX8.trans hF;clear hA8 hT8 hO8 hX8 hp8 hS8;clear hF;obtain⟨c_hT_0,c_hT_1,c_hT_2,c_hT_3,c_hT_4,c_hT_5⟩:=Cl6 hT9 rfl rfl rfl rfl rfl rfl;have f_hT:=Qae hT9 0;have f_hT1:=Qae hT9 1
     have f_hT2:=Qae hT9 2;have f_hT3:=Qae hT9 3;have f_hT4:=Qae hT9 4;have f_hT5:=Qae hT9 5
     go_upto_region 12 with(fail)
     obtain⟨w10,hw⟩:∃w10,((((((w9.setCell ⟨w1.heap.size,0,none⟩ (.int .i64 u3.ty)).setCell ⟨w1.heap.size,1,none⟩ (.string u3.fn)).setCell ⟨w1.heap.size,2,none⟩ (.int .i64 u3.off)).setCell ⟨w1.heap.size,3,none⟩ (.int .i64 u3.ln)).setCell ⟨w1.heap.size,4,none⟩ (.int .i64 u3.col)).setCell ⟨w1.heap.size,5,none⟩ (.string u3.tx))=w10:=⟨_,rfl⟩
     rw[hw];have hXT:Ext (·=w1.heap.size) w9 w10:=by rw[←hw];exact((((((Ext.refl (·=w1.heap.size) w9).set (p:=⟨w1.heap.size,0,none⟩) (.inl rfl) (.int .i64 u3.ty)).set (p:=⟨w1.heap.size,1,none⟩) (.inl rfl) (.string u3.fn)).set (p:=⟨w1.heap.size,2,none⟩) (.inl rfl) (.int .i64 u3.off)).set (p:=⟨w1.heap.size,3,none⟩) (.inl rfl) (.int .i64 u3.ln)).set (p:=⟨w1.heap.size,4,none⟩) (.inl rfl) (.int .i64 u3.col)).set (p:=⟨w1.heap.size,5,none⟩) (.inl rfl) (.string u3.tx)
     have hT10:w10.heap[w1.heap.size]? =some (.cells u3.row 122 (0,0)):=by rw[←hw];exact Qac (o:=5) (Qac (o:=4) (Qac (o:=3) (Qac (o:=2) (Qac (o:=1) (Qac (o:=0) (hT9) (.int .i64 u3.ty)) (.string u3.fn)) (.int .i64 u3.off)) (.int .i64 u3.ln)) (.int .i64 u3.col)) (.string u3.tx)
     have hA10:=hXT.heap (by omega) hA9;have hS10:=hS9.extT hXT hT9 (by decide);have hO10:=Qcc hO9 hXT (fun d hd c fr h=>by subst hd;rw[hT9]at h;cases h);have hp10:=hp9.ext hXT (fun d k=>by subst k;omega);have hs10:=hXT.size;have HXR:=Hi ((HXQ.out.trans (hX9.mono (fun d k=>.inl k))).trans (hXT.mono (S':=NS bp ab kb B) (fun d k=>by subst k;exact .inr (.inr (.inr (by omega))))));clear hw hXT;clear hA9 hS9 hO9 hT9 hp9 hX9 c_hT_0 c_hT_1 c_hT_2 c_hT_3 c_hT_4 c_hT_5 f_hT f_hT1 f_hT2 f_hT3 f_hT4 f_hT5
     obtain⟨c_hT_0,c_hT_1,c_hT_2,c_hT_3,c_hT_4,c_hT_5⟩:=Cl6 hT10 rfl rfl rfl rfl rfl rfl
     go_wp2_with fail
     refine(QbY u3 _).mono ?_;rintro e w11⟨rfl,hF⟩;have hS11:=hS10.later hF;have hA11:=Bk hF hA10;have hT11:=Bk hF hT10;have hO11:=Qaj (S:=fun _=>False) hO10 (.below hF) (fun _ h=>h.elim);have hs11:=hF.size;have hX11:Ext (·=bp) w10 w11:=.below hF;have hp11:=hp10.below hF;clear hA10 hT10 hO10 hp10 c_hT_0 c_hT_1 c_hT_2 c_hT_3 c_hT_4 c_hT_5 hS10;clear hF;cases hk4:(u3.ty==4)with
     | false =>
      go_wp2_with fail
      refine(Qay hp11 _ _).mono ?_;rintro e w12⟨T9,v9,rfl,hF⟩;have hS12:=hS11.later hF;have hA12:=Bk hF hA11;have hT12:=Bk hF hT11;have hO12:=Qaj (S:=fun _=>False) hO11 (.below hF) (fun _ h=>h.elim);have hs12:=hF.size;have hX12:=hX11.trans (.below hF);have hp12:=hp11.below hF;clear hA11 hT11 hO11 hX11 hp11 hS11;clear hF;have HR:=Hi (show note L acc (u::q)=none by unfold note;simp only[ty,hd,tx,Xf,or_true,true_or,or_self,or_false,false_or,if_true,if_false,hi,hi3,hdup,HA2.out,hj,HA3.out,hk4])
      have HAN:=Hi hA12;clear hA12;go_wp2;go_ret;rw[HR.out];exact⟨HXR.out.trans (hX12.mono (fun d k=>.inl k)),⟨_,_,rfl⟩,HAN.out.trans HA0.out.symm⟩
     | true =>
      obtain⟨c_hT_0,c_hT_1,c_hT_2,c_hT_3,c_hT_4,c_hT_5⟩:=Cl6 hT11 rfl rfl rfl rfl rfl rfl
      go_wp2_with fail
      refine(HL.out.str u3 _ hp11.g (by omega) htz3 hp11.hbs).mono ?_;rintro e w12⟨hF,hr⟩;have hS12:=hS11.later hF;have hA12:=Bk hF hA11;have hT12:=Bk hF hT11;have hO12:=Qaj (S:=fun _=>False) hO11 (.below hF) (fun _ h=>h.elim);have hs12:=hF.size;have hX12:=hX11.trans (.below hF);have hp12:=hp11.below hF;clear hA11 hT11 hO11 hX11 hp11 c_hT_0 c_hT_1 c_hT_2 c_hT_3 c_hT_4 c_hT_5 hS11;clear hF;cases hm:L.str u3.tx with
      | none =>
       rw[hm]at hr;obtain⟨s9,T9,v9,rfl⟩:=hr;have HR:=Hi (show note L acc (u::q)=none by unfold note;simp only[ty,hd,tx,Xf,or_true,true_or,or_self,or_false,false_or,if_true,if_false,hi,hi3,hdup,HA2.out,hj,HA3.out,hk4,hm]);have HAN:=Hi hA12;clear hA12;go_wp2;go_ret;rw[HR.out];exact⟨HXR.out.trans (hX12.mono (fun d k=>.inl k)),⟨_,_,rfl⟩,HAN.out.trans HA0.out.symm⟩
      | some sv =>
       rw[hm]at hr;obtain⟨rfl,hsz⟩:=hr;have HM:=Hi hm;clear hm;obtain⟨u4,q4,ha4⟩:∃a b,adv (u3::q3)=a::b:=by
        cases h:adv (u3::q3)with
        | nil=>rw[h]at hwc;exact absurd rfl hwc.ne
        | cons a b=>exact⟨a,b,rfl⟩
       rw[ha4]at hwc hp12;have HA4:=Hi ha4;clear ha4;cases hl4:(u4.tx.toList==[41])with
       | false =>
        go_wp2_with fail
        refine(Qa9 hp12 hl4).mono ?_;rintro e w13⟨T9,v9,rfl,hp13,hF⟩;have hS13:=hS12.ext hF (fun d hd=>by subst hd;omega);have hA13:=hF.heap (by omega) hA12;have hT13:=hF.heap (by omega) hT12;have hO13:=Qaj hO12 hF (fun d hd=>by omega);have hs13:=hF.size;have hX13:=hX12.trans hF;clear hA12 hT12 hO12 hX12 hp12 hS12;clear hF;have HR:=Hi (show note L acc (u::q)=none by unfold note;simp only[ty,hd,tx,Xf,or_true,true_or,or_self,or_false,false_or,if_true,if_false,hi,hi3,hdup,HA2.out,hj,HA3.out,hk4,HM.out,HA4.out,exact,hl4])
        have HAN:=Hi hA13;clear hA13;go_wp2;go_ret;rw[HR.out];exact⟨HXR.out.trans (hX13.mono (fun d k=>.inl k)),⟨_,_,rfl⟩,HAN.out.trans HA0.out.symm⟩
       | true =>
        go_wp2_with fail
        refine(Qa0 hp12 hl4).mono ?_;rintro e w13⟨rfl,hp13,hF⟩;have hS13:=hS12.ext hF (fun d hd=>by subst hd;omega);have hA13:=hF.heap (by omega) hA12;have hT13:=hF.heap (by omega) hT12;have hO13:=Qaj hO12 hF (fun d hd=>by omega);have hs13:=hF.size;have hX13:=hX12.trans hF;clear hA12 hT12 hO12 hX12 hp12 hS12;clear hF
        go_wp2_with fail
        refine(ann_c (v:=sv) hA13 hO13 hdup hl (by omega)).mono ?_;rintro e w14⟨rfl,s',hA',hO',hF⟩;have hlo:∀d,(d=ab∨s.ownBlock=some d)→d=ab∨B≤d:=fun d hd=>hd.imp id (fun h=>(Qa5 hO13 h).1)
        have hS':MsIs w14 B kb (acc.map (·.1)++[u.tx]):=by
         rcases hS13 with⟨h1,h2⟩ | ⟨b,h1,h2,h3⟩
         ·exact .inl ⟨h1,hF.heap (fun h=>by rcases h with rfl | h;exact hak rfl;obtain⟨_,c,hc⟩:=Qa5 hO13 h;rw[h2]at hc;cases hc) h2⟩
         ·exact .inr ⟨b,hF.heap (fun h=>by rcases h with rfl | h;exact hak rfl;obtain⟨_,c,hc⟩:=Qa5 hO13 h;rw[h1]at hc;cases hc) h1,h2,hF.heap (fun h=>by rcases h with rfl | h;omega;obtain⟨_,c,hc⟩:=Qa5 hO13 h;unfold Qb0 at h3;rw[h3]at hc;cases hc) h3⟩
        have hp':=hp13.ext hF (fun d hd=>by have:=hlo d hd;omega);have hX':=(HXR.out.trans (hX13.mono (fun d k=>.inl k))).trans (hF.mono (fun d k=>(hlo d k).elim (fun h=>Or.inr (.inl h)) (fun h=>.inr (.inr (.inr h)))));have HZ:=Hi hA';have HR:=Hi (show note L acc (u::q)=some ((u.tx,sv),adv (u4::q4))by unfold note;simp only[ty,hd,tx,Xf,or_true,true_or,or_self,or_false,false_or,if_true,if_false,hi,hi3,hdup,HA2.out,hj,HA3.out,hk4,HM.out,HA4.out,exact,hl4])
        clear hA' hF hlo;go_wp2;go_ret;rw[HR.out];exact⟨hX',rfl,hp',s',HZ.out,hO',by rw[List.map_append];exact hS'⟩
  | false =>
   go_wp2_with fail
   refine(Qay hp4 _ _).mono ?_;rintro e w5⟨T9,v9,rfl,hF⟩;have hS5:=hS4.later hF;have hA5:=Bk hF hA4;have hT5:=Bk hF hT4;have hO5:=Qaj (S:=fun _=>False) hO4 (.below hF) (fun _ h=>h.elim);have hs5:=hF.size;have hX5:=hX4.trans (.below hF);have hp5:=hp4.below hF;clear hA4 hT4 hO4 hX4 hp4 hS4;clear hF;have HR:=Hi (show note L acc (u::q)=none by unfold note;simp only[ty,hd,tx,Xf,or_true,true_or,or_self,or_false,false_or,if_true,if_false,hi,hi3])
   have HAN:=Hi hA5;clear hA5;go_wp2;go_ret;rw[HR.out];exact⟨hX5.mono (fun d k=>.inl k),⟨_,_,rfl⟩,HAN.out.trans HA0.out.symm⟩
theorem QgZ{W:World}{fn:Func}{R:Nat}{v err:Value}{Q:Ending→World→Prop}(a:Act)(hf:fn.results=#[.cell 2 223,.tmp 3])(ha:a.tmps.getD 2 undef=.pointer (some ⟨R,0,none⟩))(he:a.tmps.getD 3 undef=err)(had:a.defers=[])
  (r:W.heap[R]? =some (.cells #[v] 223 (0,0)))(h:Q (.returned (.tuple #[.agg #[v],err])) W):bodyPost prog fn Q Exit.ret a W:=by
 refine bodyPost_ret (QaH (a:=2) (t:=223) hf _ ⟨R,0,none⟩ ha _ _ (QcP _ _ _ _ (by kernel_rfl) (by kernel_rfl) (Qaa (o:=0) r rfl))) had ?_;rw[he];exact h
def Qb9(L:Lex):Nat→List (ByteArray×ByteArray)→Toks→Option (List (ByteArray×ByteArray)×Toks)
 | 0,_,_=>none
 | f+1,acc,ts=>if(tx ts==[64])=true then(match note L acc (adv ts)with
   | none=>none
   | some (n,us)=>Qb9 L f (acc++[n]) us)
  else some (acc,ts)
def notes(L:Lex)(ts:Toks):Option (List (ByteArray×ByteArray)×Toks):=Qb9 L (ts.length+1) [] ts
theorem Qha{L:Lex}{acc:List (ByteArray×ByteArray)}{ts us:Toks}{n:ByteArray×ByteArray}(h:Wf ts)(he:note L acc ts=some (n,us)):Sf us ts:=by
 unfold note at he;split at he
 ·split at he
  ·cases he
  ·split at he
   ·split at he
    ·split at he
     ·cases he
     ·split at he
      ·cases he
      ·rename_i vs hv
       cases he;exact(QaC h.adv.adv.adv hv).trans ((Qam h.adv.adv).trans ((Qam h.adv).trans (Qam h)))
    ·cases he
   ·cases he
    exact Qam h
 ·cases he
def NotesP(bp base:Nat)(w:World)(r:Option (List (ByteArray×ByteArray)×Toks))(e:Ending)(w':World):Prop :=
 Ext (·=bp) w w'∧match r with
 | none=>∃p n c T,∃x:EVal base w' T,e=.returned (.tuple #[.agg #[.slice p n c],.iface T x.1])
 | some (l,us)=>∃p c,e=.returned (.tuple #[.agg #[.slice p l.length c],.nilIface])∧PS w' bp base us∧w'.ownsRow w.heap.size 133 2 (.slice p l.length c) l.length (Qav l)∧l.length≤1000000
def NtRel(m:Nat→List (ByteArray×ByteArray)→Toks→Option (List (ByteArray×ByteArray)×Toks))(bp base N:Nat)(w:World)(Rm:Option (List (ByteArray×ByteArray)×Toks))(wr:World):Prop :=
 ∃g acc p c vs,m g acc vs=Rm∧vs.length<g∧Wf vs∧vs.length≤N∧acc.length+vs.length≤N∧PS wr bp base vs∧wr.heap[w.heap.size]? =some (.cells #[.slice none 0 0] 223 (0,0))∧wr.heap[w.heap.size+1]? =some (.cells #[.slice p acc.length c] 223 (0,0))∧wr.ownsRow (w.heap.size+1+1+1) 133 2 (.slice p acc.length c) acc.length (Qav acc)∧MsIs wr (w.heap.size+1+1+1) (w.heap.size+1+1) (acc.map (·.1))∧Ext (·=bp) w wr
theorem Qea{w:World}{B B':Nat}{e:TypeId}{size:Nat}{v:Value}{n:Nat}{xs:List Value}(h:w.ownsRow B e size v n xs)(hb:B'≤B):w.ownsRow B' e size v n xs:=by
 obtain⟨h1,h2⟩:=h;refine⟨h1,?_⟩;rcases h2 with h | ⟨g,cap,cur,a,b,c,d⟩
 ·exact .inl h
 ·exact .inr ⟨g,cap,cur,a,Xe hb b,c,d⟩
theorem notes_w{L:Lex}(hL:LexC L){bp base:Nat}(w:World)(ts:Toks)(hp:PS w bp base ts)(hwf:Wf ts)(hbs:base≤w.heap.size) :
  Calls prog 68 #[.pointer (some ⟨bp,0,none⟩)] w (NotesP bp base w (notes L ts)):=by
 have hbb:=hp.hbp;have h15:=hp.h15;have hlen:=hp.len;have HL:=Hi hL;clear hL;have HF:=Hi (show notes L ts=Qb9 L (ts.length+1) [] ts from rfl);go_enter func68,ntmps68
 go_upto_region 3 with(fail)
 obtain⟨w1,hw⟩:∃w1,(((w.alloc (.cells #[.slice none 0 0] 223)).alloc (.cells #[.slice none 0 0] 223)).alloc (.cells #[.map none] 283))=w1:=⟨_,rfl⟩
 rw[hw];have hF:Below w.heap.size w w1:=by rw[←hw];exact((Qab w _).alloc (by simp) _).alloc (by simp;omega) _
 have hR1:w1.heap[w.heap.size]? =some (.cells #[.slice none 0 0] 223 (0,0)):=by rw[←hw];exact Qaf (Qaf (Qah (by simp) _) _) _
 have hA1:w1.heap[w.heap.size+1]? =some (.cells #[.slice none 0 0] 223 (0,0)):=by rw[←hw];exact Qaf (Qah (by simp) _) _
 have hK1:w1.heap[w.heap.size+1+1]? =some (.cells #[.map none] 283 (0,0)):=by rw[←hw];exact Qah (by simp) _
 have hs1:w.heap.size+3≤w1.heap.size:=by rw[←hw];simp
 clear hw;have hX1:Ext (·=bp) w w1:=.below hF;have hp1:=hp.below hF;clear hp;clear hF
 go_loopw [6] (fun _ wr=>NtRel (Qb9 L) bp base ts.length w (Qb9 L (ts.length+1) [] ts) wr) (fun _ wr=>left wr bp)
 case atStart=>exact⟨ts.length+1,[],none,0,ts,rfl,by omega,hwf,by omega,by simp,hp1,hR1,hA1,⟨rfl,.inl ⟨rfl,rfl⟩⟩,.inl ⟨rfl,hK1⟩,hX1⟩
 case round =>
  clear hp1 hR1 hA1 hK1 hX1;obtain⟨wo,rfl⟩:∃wo:World,wo=wr:=⟨_,rfl⟩
  obtain⟨g,acc,p,c,vs,hg,hgl,hvw,hvN,haN,hp_wo,hR_wo,hA_wo,hO_wo,hS_wo,hX_wo⟩:=hrel;have HG:=Hi hg;clear hg;cases g with
  | zero=>omega
  | succ g =>
  obtain⟨u,q,rfl⟩:∃u q,vs=u::q:=by cases vs with | nil=>exact absurd rfl hp_wo.ne | cons u q=>exact⟨u,q,rfl⟩
  have HLF:=Hi hp_wo.left;have hsz_wo:=hX_wo.size;have hul:0<(u::q).length:=by simp
  have hwa:=hvw.adv;obtain⟨vx,hvx⟩:=hS_wo.box;have ltS:=Qad hvx;clear hvx
  go_wp2_with fail
  refine(Qa7 hp_wo).mono ?_;rintro e w2⟨rfl,hF⟩;have hS2:=hS_wo.later hF;clear hS_wo;have hR2:=Bk hF hR_wo;have hA2:=Bk hF hA_wo;have hO2:=Qaj (S:=fun _=>False) hO_wo (.below hF) (fun _ h=>h.elim);have hs2:=hF.size;have hX2:=hX_wo.trans (.below hF);have hp2:=hp_wo.below hF;clear hR_wo hA_wo hO_wo hX_wo hp_wo;clear hF;cases ht:(u.tx.toList==[64])with
  | false =>
   have c_hR_0:=Qaa (o:=0) hR2 rfl;have f_hR:=Qae hR2 0;have c_hA_0:=Qaa (o:=0) hA2 rfl;have lt_hR:=Qad hR2;have lt_hA:=Qad hA2;have HR:=Hi (show notes L ts=some (acc,u::q)by rw[HF.out,←HG.out,Qb9];simp[tx,ht]);have HB:=Hi hR2;clear hR2 hA2;go_wp2;refine QgZ (R:=w.heap.size) _ (by kernel_rfl) rfl rfl rfl (Qac (o:=0) HB.out _) ?_;rw[HR.out];exact⟨hX2.set (p:=⟨w.heap.size,0,none⟩) (.inr (Xb _)) _,p,c,rfl,hp2.set (o:=0) (by omega) _,Qea (Qdo (o:=0) hO2 HB.out (by decide) _) (by omega),by omega⟩
  | true =>
   have hau:(adv (u::q)).length<(u::q).length:=Qax hvw (s:=[64]) ht (by decide)
   go_wp2_with fail
   refine(Qaz hp2).mono ?_;rintro e w3⟨rfl,hp3,hF⟩;have hS3:=hS2.ext hF (fun d hd=>by subst hd;omega);clear hS2;have hR3:=hF.heap (by omega) hR2;have hA3:=hF.heap (by omega) hA2;have hO3:=Qaj hO2 hF (fun d hd=>by omega);have hs3:=hF.size;have hX3:=hX2.trans hF;clear hR2 hA2 hO2 hX2 hp2;clear hF
   go_wp2_with fail
   refine(note_w HL.out (B:=w.heap.size+1+1+1) (ab:=w.heap.size+1) (kb:=w.heap.size+1+1) _ _ hp3 hwa (by omega) (by omega) (by omega) (by omega) (by omega) (by omega) (by omega) hA3 hO3 hS3 (by omega)).mono ?_;rintro e w4⟨hF,hr⟩;have hNS:∀d,NS bp (w.heap.size+1) (w.heap.size+1+1) (w.heap.size+1+1+1) d→d=bp∨w.heap.size+1≤d:=fun d hd=>by rcases hd with h | h | h | h<;>omega
   have hX4:=hX3.trans' hF (fun d hd=>(hNS d hd).imp id (fun h=>by omega));have hR4:=hF.heap (fun hd=>by have:=hNS _ hd;omega) hR3;have hs4:=hF.size;cases hm:note L acc (adv (u::q))with
   | none =>
    rw[hm]at hr;obtain⟨⟨T9,v9,rfl⟩,hab⟩:=hr;have hA4:=hab.trans hA3;clear hR3 hA3 hO3 hp3 hX3 hF hab hS3;have c_hR_0:=Qaa (o:=0) hR4 rfl;have f_hR:=Qae hR4 0;have c_hA_0:=Qaa (o:=0) hA4 rfl;have lt_hR:=Qad hR4;have lt_hA:=Qad hA4;have HR:=Hi (show notes L ts=none by rw[HF.out,←HG.out,Qb9];simp[tx,ht,hm]);have HB:=Hi hR4;clear hR4 hA4 hm;go_wp2;refine QgZ (R:=w.heap.size) _ (by kernel_rfl) rfl rfl rfl (Qac (o:=0) HB.out _) ?_
    rw[HR.out];exact⟨hX4.set (p:=⟨w.heap.size,0,none⟩) (.inr (Xb _)) _,_,_,_,_,v9.to (fun _ h=>Qiq h),rfl⟩
   | some p9 =>
    obtain⟨n9,us⟩:=p9;rw[hm]at hr;obtain⟨rfl,hp9,s',hA',hO',hS'⟩:=hr;have hsf:=Qha hwa hm;have hwu:=hsf.wf hwa;have hl2:=hsf.len;have HG2:=Hi (show Qb9 L g (acc++[n9]) us=Qb9 L (ts.length+1) [] ts by rw[←HG.out,Qb9];simp[tx,ht,hm]);obtain⟨p',c',rfl⟩:=QbT hO';have HZ:=Hi (Xc hA' hR4);clear hR3 hA3 hO3 hp3 hX3 hF hm hsf hA' hR4 hS3;go_wp2;go_roundw
    case rel=>exact⟨g,acc++[n9],p',c',us,HG2.out,by omega,hwu,by omega,by rw[List.length_append];show acc.length+1+_≤_;omega,hp9,HZ.out.2,by simpa using HZ.out.1,by simpa using hO',hS',hX4⟩
    case measure =>
     rw[hp9.left,HLF.out];omega
end Go.Proofs.Pg
namespace Go.Proofs.Pg
open Go.RowKit
structure Pol where
 eff:Bool
 notes:List (ByteArray×ByteArray)
 pr:Scp
 ac:Scp
 re:Scp
 cs:List (Bool×Ex)
 fn:ByteArray
 off:Int
 ln:Int
 col:Int
def Qds(ts:Toks):Toks:=if(tx ts==[44])=true then adv ts else ts
def Qa2(L:Lex)(E:Toks→Option (Ex×Toks))(ts:Toks):Option (Pol×Toks) :=
 (notes L ts).bind fun a=>(effM a.2).bind fun b=>(exact [40] b.2).bind fun t3=>(Qat L [112,114,105,110,99,105,112,97,108] t3).bind fun c=>(exact [44] c.2).bind fun t5 =>
 (QaI L t5).bind fun d=>(exact [44] d.2).bind fun t7=>(Qat L [114,101,115,111,117,114,99,101] t7).bind fun e=>(exact [41] (Qds e.2)).bind fun t10=>(conds E t10).bind fun f=>(exact [59] f.2).bind fun t12 =>
 some (⟨b.1,a.1,c.1,d.1,e.1,f.1,(hd ts).fn,(hd ts).off,(hd ts).ln,(hd ts).col⟩,t12)
theorem Qez{L:Lex}:∀(f:Nat)(acc:List (ByteArray×ByteArray))(ts us:Toks)(l:List (ByteArray×ByteArray)),Wf ts→Qb9 L f acc ts=some (l,us)→Sf us ts
 | 0,_,_,_,_,_,he=>by cases he
 | f+1,acc,ts,us,l,h,he=>by
  rw[Qb9]at he;split at he
  ·split at he
   ·cases he
   ·rename_i n vs hv
    have h1:=Qha h.adv hv;exact(Qez f _ _ _ _ (h1.wf h.adv) he).trans (h1.trans (Qam h))
  ·cases he;exact h.refl
theorem Qeb{L:Lex}{ts us:Toks}{l:List (ByteArray×ByteArray)}(h:Wf ts)(he:notes L ts=some (l,us)):Sf us ts:=Qez _ _ _ _ _ h he
theorem Qfc{ts us:Toks}{b:Bool}(h:Wf ts)(he:effM ts=some (b,us)):Sf us ts:=by
 unfold effM at he;split at he
 ·cases he;exact Qam h
 ·split at he
  ·cases he;exact Qam h
  ·cases he
theorem Qb6{L:Lex}{wd:List UInt8}{ts us:Toks}{s:Scp}(h:Wf ts)(he:Qat L wd ts=some (s,us)):Sf us ts:=by
 unfold Qat at he;split at he
 ·cases he
 ·rename_i vs hv
  have h1:=QaC h hv;have hw:=h1.wf h;split at he
  ·split at he
   ·cases he
   ·rename_i z zs hz
    cases he;exact(Qb8 _ _ _ hw.adv hz).1.trans ((Qam hw).trans h1)
  ·split at he
   ·split at he
    ·cases he
    ·rename_i z zs hz
     have h2:=(QcR _ _ _ hw.adv hz).1;have hw2:=h2.wf hw.adv;split at he
     ·split at he
      ·cases he
      ·rename_i y ys hy
       cases he;exact(Qb8 _ _ _ hw2.adv hy).1.trans ((Qam hw2).trans (h2.trans ((Qam hw).trans h1)))
     ·cases he
      exact h2.trans ((Qam hw).trans h1)
   ·split at he
    ·split at he
     ·cases he
     ·rename_i z zs hz
      cases he;exact(Qb8 _ _ _ hw.adv hz).1.trans ((Qam hw).trans h1)
    ·cases he;exact h1
theorem Qf0{L:Lex}:∀(f:Nat)(acc:List (ByteArray×ByteArray))(ts us:Toks)(l:List (ByteArray×ByteArray)),Wf ts→Qcg L f acc ts=some (l,us)→Sf us ts
 | 0,_,_,_,_,_,he=>by cases he
 | f+1,acc,ts,us,l,h,he=>by
  rw[Qcg]at he;split at he
  ·cases he;exact h.refl
  ·split at he
   ·cases he
   ·rename_i n vs hv
    have h1:=(Qb8 _ _ _ h hv).1;have hw:=h1.wf h;split at he
    ·exact(Qf0 f _ _ _ _ hw.adv he).trans ((Qam hw).trans h1)
    ·split at he
     ·cases he;exact h1
     ·cases he
theorem QcU{L:Lex}{ts us:Toks}{s:Scp}(h:Wf ts)(he:QaI L ts=some (s,us)):Sf us ts:=by
 unfold QaI at he;split at he
 ·cases he
 ·rename_i vs hv
  have h1:=QaC h hv;have hw:=h1.wf h;split at he
  ·split at he
   ·cases he
   ·rename_i z zs hz
    cases he;exact(Qb8 _ _ _ hw.adv hz).1.trans ((Qam hw).trans h1)
  ·split at he
   ·split at he
    ·split at he
     ·cases he
     ·rename_i z zs hz
      cases he;have h2:=Qf0 _ _ _ _ _ hw.adv.adv hz;exact(Qam (h2.wf hw.adv.adv)).trans (h2.trans ((Qam hw.adv).trans ((Qam hw).trans h1)))
    ·split at he
     ·cases he
     ·rename_i z zs hz
      cases he;exact(Qb8 _ _ _ hw.adv hz).1.trans ((Qam hw).trans h1)
   ·cases he;exact h1
theorem Qdt{E:Toks→Option (Ex×Toks)}(hE:Sh E):∀(f:Nat)(acc:List (Bool×Ex))(ts us:Toks)(l:List (Bool×Ex)),Wf ts→Qbh E f acc ts=some (l,us)→Sf us ts
 | 0,_,_,_,_,_,he=>by cases he
 | f+1,acc,ts,us,l,h,he=>by
  rw[Qbh]at he;split at he
  ·split at he
   ·cases he
   ·rename_i n vs hv
    have h1:=Qdr hE h.adv hv;exact(Qdt hE f _ _ _ _ (h1.wf h.adv) he).trans (h1.trans (Qam h))
  ·split at he
   ·split at he
    ·cases he
    ·rename_i n vs hv
     have h1:=Qdr hE h.adv hv;exact(Qdt hE f _ _ _ _ (h1.wf h.adv) he).trans (h1.trans (Qam h))
   ·cases he;exact h.refl
theorem Qf1{ts:Toks}(h:Wf ts):Sf (Qds ts) ts:=by
 unfold Qds;split
 ·exact Qam h
 ·exact h.refl
theorem Qb3{S:Nat→Prop}{w w':World}{base:Nat}{e:TypeId}{size:Nat}{v:Value}{n:Nat}{xs:List Value}(h:w.ownsRow base e size v n xs)(he:Ext S w w')(hs:∀d,S d→d<base∨∀c fr,w.heap[d]?≠some (.cells c e fr)):w'.ownsRow base e size v n xs:=by
 obtain⟨h1,h2⟩:=h;refine⟨h1,?_⟩;rcases h2 with h | ⟨g,cap,cur,a,b,c,d⟩
 ·exact .inl h
 ·exact .inr ⟨g,cap,cur,a,b,he.heap (fun hS=>(hs _ hS).elim (fun k=>by omega) (fun k=>k _ _ c)) c,d⟩
theorem ScIs.ext{S:Nat→Prop}{w w':World}{lo:Nat}{old v:Value}{s:Scp}(h:ScIs w lo old v s)(he:Ext S w w')(hs:∀d,S d→d<lo∨∀c fr,w.heap[d]?≠some (.cells c 167 fr)):ScIs w' lo old v s:=by
 cases s with
 | all=>exact h
 | eq u=>exact h
 | within u=>exact h
 | is s=>exact h
 | isIn s u=>exact h
 | inSet l =>
  obtain⟨p,c,hv,hr⟩:=h;refine⟨p,c,hv,?_⟩;rcases hr with hr | ⟨b,off,c',fr,h1,h2,h3,h4⟩
  ·exact .inl hr
  ·exact .inr ⟨b,off,c',fr,h1,h2,he.heap (fun hS=>(hs _ hS).elim (fun k=>by omega) (fun k=>k _ _ h3)) h3,h4⟩
end Go.Proofs.Pg
namespace Go.Proofs.Pg
open Go.RowKit Go.Proofs.Tryz
attribute [local go_sem] Oper.semAt_some
theorem skip_c{w:World}{bp base:Nat}{t:Tok}{ts:List Tok}(hp:PS w bp base (t::ts)) :
  Calls prog 74 #[.pointer (some ⟨bp,0,none⟩),.string ⟨#[44]⟩] w fun e w'=>e=.returned (.tuple #[])∧PS w' bp base (Qds (t::ts))∧Ext (·=bp) w w':=by
 have e:(⟨#[44]⟩:ByteArray).toList=[44]:=by rw[ByteArray.toList_eq]
 unfold Qds;cases h:(t.tx.toList==[44])with
 | true=>simpa [tx,h]using skip_yes hp ⟨#[44]⟩ (by rw[e];exact h)
 | false=>simpa [tx,h]using skip_no hp ⟨#[44]⟩ (by rw[e];exact h)
theorem ten_set{w:World}{b:Nat}{TT:TypeId}{c0 c1 c2 c3 c4 c5 c6 c7 c8 c9:Value}(x0 x1 x2 x3 x4 x5 x6 x7 x8 x9:Value)(h0:w.heap[b]? =some (.cells #[c0,c1,c2,c3,c4,c5,c6,c7,c8,c9] TT (0,0))) :
  ((((((((((w.setCell ⟨b,0,none⟩ x0).setCell ⟨b,1,none⟩ x1).setCell ⟨b,2,none⟩ x2).setCell ⟨b,3,none⟩ x3).setCell ⟨b,4,none⟩ x4).setCell ⟨b,5,none⟩ x5).setCell ⟨b,6,none⟩ x6).setCell ⟨b,7,none⟩ x7).setCell ⟨b,8,none⟩ x8).setCell ⟨b,9,none⟩ x9).heap[b]? =some (.cells #[x0,x1,x2,x3,x4,x5,x6,x7,x8,x9] TT (0,0)):=by
 have h1:(w.setCell ⟨b,0,none⟩ x0).heap[b]? =some (.cells #[x0,c1,c2,c3,c4,c5,c6,c7,c8,c9] TT (0,0)):=Qac (o:=0) h0 x0;have h2:((w.setCell ⟨b,0,none⟩ x0).setCell ⟨b,1,none⟩ x1).heap[b]? =some (.cells #[x0,x1,c2,c3,c4,c5,c6,c7,c8,c9] TT (0,0)):=Qac (o:=1) h1 x1;have h3:(((w.setCell ⟨b,0,none⟩ x0).setCell ⟨b,1,none⟩ x1).setCell ⟨b,2,none⟩ x2).heap[b]? =some (.cells #[x0,x1,x2,c3,c4,c5,c6,c7,c8,c9] TT (0,0)):=Qac (o:=2) h2 x2
 have h4:((((w.setCell ⟨b,0,none⟩ x0).setCell ⟨b,1,none⟩ x1).setCell ⟨b,2,none⟩ x2).setCell ⟨b,3,none⟩ x3).heap[b]? =some (.cells #[x0,x1,x2,x3,c4,c5,c6,c7,c8,c9] TT (0,0)):=Qac (o:=3) h3 x3;have h5:(((((w.setCell ⟨b,0,none⟩ x0).setCell ⟨b,1,none⟩ x1).setCell ⟨b,2,none⟩ x2).setCell ⟨b,3,none⟩ x3).setCell ⟨b,4,none⟩ x4).heap[b]? =some (.cells #[x0,x1,x2,x3,x4,c5,c6,c7,c8,c9] TT (0,0)):=Qac (o:=4) h4 x4
 have h6:((((((w.setCell ⟨b,0,none⟩ x0).setCell ⟨b,1,none⟩ x1).setCell ⟨b,2,none⟩ x2).setCell ⟨b,3,none⟩ x3).setCell ⟨b,4,none⟩ x4).setCell ⟨b,5,none⟩ x5).heap[b]? =some (.cells #[x0,x1,x2,x3,x4,x5,c6,c7,c8,c9] TT (0,0)):=Qac (o:=5) h5 x5;have h7:(((((((w.setCell ⟨b,0,none⟩ x0).setCell ⟨b,1,none⟩ x1).setCell ⟨b,2,none⟩ x2).setCell ⟨b,3,none⟩ x3).setCell ⟨b,4,none⟩ x4).setCell ⟨b,5,none⟩ x5).setCell ⟨b,6,none⟩ x6).heap[b]? =some (.cells #[x0,x1,x2,x3,x4,x5,x6,c7,c8,c9] TT (0,0)):=Qac (o:=6) h6 x6
 have h8:((((((((w.setCell ⟨b,0,none⟩ x0).setCell ⟨b,1,none⟩ x1).setCell ⟨b,2,none⟩ x2).setCell ⟨b,3,none⟩ x3).setCell ⟨b,4,none⟩ x4).setCell ⟨b,5,none⟩ x5).setCell ⟨b,6,none⟩ x6).setCell ⟨b,7,none⟩ x7).heap[b]? =some (.cells #[x0,x1,x2,x3,x4,x5,x6,x7,c8,c9] TT (0,0)):=Qac (o:=7) h7 x7;have h9:(((((((((w.setCell ⟨b,0,none⟩ x0).setCell ⟨b,1,none⟩ x1).setCell ⟨b,2,none⟩ x2).setCell ⟨b,3,none⟩ x3).setCell ⟨b,4,none⟩ x4).setCell ⟨b,5,none⟩ x5).setCell ⟨b,6,none⟩ x6).setCell ⟨b,7,none⟩ x7).setCell ⟨b,8,none⟩ x8).heap[b]? =some (.cells #[x0,x1,x2,x3,x4,x5,x6,x7,x8,c9] TT (0,0)):=Qac (o:=8) h8 x8
 have h10:((((((((((w.setCell ⟨b,0,none⟩ x0).setCell ⟨b,1,none⟩ x1).setCell ⟨b,2,none⟩ x2).setCell ⟨b,3,none⟩ x3).setCell ⟨b,4,none⟩ x4).setCell ⟨b,5,none⟩ x5).setCell ⟨b,6,none⟩ x6).setCell ⟨b,7,none⟩ x7).setCell ⟨b,8,none⟩ x8).setCell ⟨b,9,none⟩ x9).heap[b]? =some (.cells #[x0,x1,x2,x3,x4,x5,x6,x7,x8,x9] TT (0,0)):=Qac (o:=9) h9 x9;exact h10
theorem ScIs.iface{w:World}{lo:Nat}{v:Value}{s:Scp}(h:ScIs w lo allV v s):∃T x,v=.iface T x:=by
 cases s with
 | all=>exact⟨_,_,h⟩
 | eq u=>exact⟨_,_,h⟩
 | within u=>exact⟨_,_,h⟩
 | is s=>exact⟨_,_,h⟩
 | isIn s u=>exact⟨_,_,h⟩
 | inSet l=>obtain⟨p,c,hv,_⟩:=h;exact⟨_,_,hv⟩
theorem PS.extT{w w':World}{bp base tb:Nat}{ts:List Tok}(h:PS w bp base ts)(he:Ext (·=tb) w w')(h15:15≤tb)(hne:tb≠bp)(hno:∀o t,¬TokAt w tb o t):PS w' bp base ts:=by
 obtain⟨bt,off,n,cap,k,a,b,c,d,e,f,g⟩:=h.ex;have hlo:=h.lo _ _ _ _ _ b;have hbt:¬bt=tb:=by
  rintro rfl;cases ts with
  | nil=>exact f rfl
  | cons t ts=>exact hno _ _ (g 0 t rfl)
 have hb:w'.heap[bp]? =_:=(he.block bp (Array.getElem?_eq_some_iff.1 b).1 (fun e=>hne e.symm)).trans b;exact⟨⟨bt,off,n,cap,k,a,hb,Nat.lt_of_lt_of_le c he.size,d,e,f,fun i t hi=>(g i t hi).ext he hbt⟩,fun bt' off' n' cap' v' h'=>(by rw[hb]at h';cases h';exact hlo),h.hbp,h.g.ext he (fun d hd=>by have:=h.h15;omega) (by have:=(Array.getElem?_eq_some_iff.1 b).1;have:=h.h15;omega),h.h15,Xe h.hbs he.size⟩
def PolIs(w:World)(base B tb:Nat)(TT:TypeId)(P:Pol):Prop :=
 ∃pn cn prv acv rev pc cc cells,w.heap[tb]? =some (.cells #[.bool P.eff,.slice pn P.notes.length cn,prv,acv,rev,.slice pc P.cs.length cc,.string P.fn,.int .i64 P.off,.int .i64 P.ln,.int .i64 P.col] TT (0,0)) ∧
  w.ownsRow B 133 2 (.slice pn P.notes.length cn) P.notes.length (Qav P.notes)∧ScIs w base allV prv P.pr∧ScIs w base allV acv P.ac∧ScIs w base allV rev P.re∧w.ownsRow B 138 2 (.slice pc P.cs.length cc) P.cs.length cells∧CondsIs w base cells P.cs
def FcP(bp base tb:Nat)(TT:TypeId)(w:World)(r:Option (Pol×Toks))(e:Ending)(w':World):Prop :=
 Ext (fun d=>d=bp∨d=tb) w w'∧match r with
 | none=>∃T,∃v:EVal base w' T,e=.returned (.iface T v.1)
 | some (P,us)=>e=.returned .nilIface∧PS w' bp base us∧PolIs w' base w.heap.size tb TT P
theorem policy_w{L:Lex}(hL:LexC L){E:Toks→Option (Ex×Toks)}{bp base tb N:Nat}{TT:TypeId}{t0 t1 t2 t3 t4 t5 t6 t7 t8 t9:Value}(hE:Sh E)(hC:FnC 149 E bp base N)(w:World)(ts:Toks)(hp:PS w bp base ts)(hwf:Wf ts)(hN:ts.length≤N)(hbs:base≤w.heap.size)(htb:base≤tb∨(15≤tb∧tb≠bp∧∀x o t,x.heap[tb]? =w.heap[tb]?→¬TokAt x tb o t))(hTT:TT≠133∧TT≠138∧TT≠167∧TT≠136∧TT≠221∧TT≠316)
  (ht:w.heap[tb]? =some (.cells #[t0,t1,t2,t3,t4,t5,t6,t7,t8,t9] TT (0,0))) :
  Calls prog 55 #[.pointer (some ⟨tb,0,none⟩),.pointer (some ⟨bp,0,none⟩)] w (FcP bp base tb TT w (Qa2 L E ts)):=by
 have hbb:=hp.hbp;have h15:=hp.h15;have hlen:=hp.len;have HL:=Hi hL;have HC:=Hi hC;have HE:=Hi hE;clear hL hC hE;have ltT:=Qad ht;have hT_w:=ht;have HT0:=Hi ht;clear ht;obtain⟨u,q,rfl⟩:∃u q,ts=u::q:=by cases ts with | nil=>exact absurd rfl hp.ne | cons u q=>exact⟨u,q,rfl⟩
 go_enter func55,ntmps55;have HTT:=Hi hTT
 go_wp2_with fail
 refine(Qa7 hp).mono ?_;rintro e w1⟨rfl,hF⟩;have hT1:=Bk hF hT_w;have hs1:=hF.size;have hX1:Ext (·=bp) w w1:=.below hF;have hp_w1:=hp.below hF;clear hT_w hp;clear hF
 go_upto_region 2 with(fail)
 obtain⟨w2,hw⟩:∃w2,w1.alloc (.cells #[.string u.fn,.int .i64 u.off,.int .i64 u.ln,.int .i64 u.col] 120)=w2:=⟨_,rfl⟩
 rw[hw];have hF:Below w1.heap.size w1 w2:=by rw[←hw];exact Qab _ _
 have hQ2:w2.heap[w1.heap.size]? =some (.cells #[.string u.fn,.int .i64 u.off,.int .i64 u.ln,.int .i64 u.col] 120 (0,0)):=by rw[←hw];exact Xa _ _
 have hs2:w1.heap.size+1≤w2.heap.size:=by rw[←hw];simp
 clear hw;have hT2:=Bk hF hT1;have hX2:=hX1.trans (.below hF);have hp_w2:=hp_w1.below hF;clear hT1 hX1 hp_w1;clear hF
 go_wp2_with fail
 refine(notes_w HL.out _ _ hp_w2 hwf (by omega)).mono ?_;rintro e w3⟨hF,hr⟩;have hT3:=hF.heap (by omega) hT2;have hQ3:=hF.heap (by omega) hQ2;have hs3:=hF.size;have hX3:=hX2.trans hF;clear hT2 hQ2 hX2;clear hF;cases hm1:notes L (u::q)with
 | none =>
  rw[hm1]at hr;obtain⟨p9,n9,c9,T9,v9,rfl⟩:=hr;have HR:=Hi (show Qa2 L E (u::q)=none by simp[Qa2,hm1]);go_wp2;go_ret;rw[HR.out];exact⟨(hX3.alloc _).mono (fun d k=>.inl k),_,v9.to (fun _ h=>Qip h),rfl⟩
 | some p1 =>
  obtain⟨ns,a1⟩:=p1;rw[hm1]at hr;obtain⟨pn,cn,rfl,hp1,hO3,hln⟩:=hr;have hw1:=(Qeb hwf hm1).wf hwf;have hl1:=(Qeb hwf hm1).len;have H1:=Hi hm1;clear hm1
  go_upto_region 3 with(fail)
  obtain⟨w4,hw⟩:∃w4,w3.alloc (.cells #[.slice pn ns.length cn] 223)=w4:=⟨_,rfl⟩
  rw[hw];have hF:Below w3.heap.size w3 w4:=by rw[←hw];exact Qab _ _
  have hA4:w4.heap[w3.heap.size]? =some (.cells #[.slice pn ns.length cn] 223 (0,0)):=by rw[←hw];exact Xa _ _
  have hs4:w3.heap.size+1≤w4.heap.size:=by rw[←hw];simp
  clear hw;have hT4:=Bk hF hT3;have hQ4:=Bk hF hQ3;have hO4:=Qaj (S:=fun _=>False) hO3 (.below hF) (fun _ h=>h.elim);have hX4:=hX3.trans (.below hF);have hp4:=hp1.below hF;clear hT3 hQ3 hO3 hX3 hp1;clear hF
  go_wp2_with fail
  refine(effect_w _ _ hp4 hw1 (by omega) (by omega) hA4).mono ?_;rintro e w5⟨hF,hr⟩;have hT5:=hF.heap (by omega) hT4;have hQ5:=hF.heap (by omega) hQ4;have hA5:=hF.heap (by omega) hA4;have hO5:=Qaj hO4 hF (fun d hd=>by omega);have hs5:=hF.size;have hX5:=hX4.trans hF;clear hT4 hQ4 hA4 hO4 hX4;clear hF;cases hm2:effM a1 with
  | none =>
   rw[hm2]at hr;obtain⟨T9,v9,rfl⟩:=hr;have HR:=Hi (show Qa2 L E (u::q)=none by simp[Qa2,H1.out,hm2]);go_wp2;go_ret;rw[HR.out];exact⟨hX5.mono (fun d k=>.inl k),_,_,rfl⟩
  | some p2 =>
   obtain⟨ef,a2⟩:=p2;rw[hm2]at hr;obtain⟨pb,rfl,hpb,hP,hp2⟩:=hr;have hw2:=(Qfc hw1 hm2).wf hw1;have hl2:=(Qfc hw1 hm2).len;have H2:=Hi hm2;clear hm2;unfold Qa8 at hP;have hL5:=hP;clear hP;obtain⟨c_hQ_0,c_hQ_1,c_hQ_2,c_hQ_3⟩:=Cl4 hQ5 rfl rfl rfl rfl;have c_hL_6:=Qaa (o:=6) hL5 rfl;have f_L0:=Qae hL5 6;have c_hL_7:=Qaa (o:=7) hL5 rfl;have f_L1:=Qae hL5 7;have c_hL_8:=Qaa (o:=8) hL5 rfl;have f_L2:=Qae hL5 8
   have c_hL_9:=Qaa (o:=9) hL5 rfl;have f_L3:=Qae hL5 9;have ltL:=Qad hL5
   go_upto_region 9 with(fail)
   obtain⟨w6,hw⟩:∃w6,((((w5.setCell ⟨pb,6,none⟩ (.string u.fn)).setCell ⟨pb,7,none⟩ (.int .i64 u.off)).setCell ⟨pb,8,none⟩ (.int .i64 u.ln)).setCell ⟨pb,9,none⟩ (.int .i64 u.col))=w6:=⟨_,rfl⟩
   rw[hw];have hXT:Ext (·=pb) w5 w6:=by rw[←hw];exact((((Ext.refl (·=pb) w5).set (p:=⟨pb,6,none⟩) (.inl rfl) (.string u.fn)).set (p:=⟨pb,7,none⟩) (.inl rfl) (.int .i64 u.off)).set (p:=⟨pb,8,none⟩) (.inl rfl) (.int .i64 u.ln)).set (p:=⟨pb,9,none⟩) (.inl rfl) (.int .i64 u.col)
   have hL6:w6.heap[pb]? =some (.cells #[.bool ef,.slice pn ns.length cn,allV,allV,allV,.slice none 0 0,.string u.fn,.int .i64 u.off,.int .i64 u.ln,.int .i64 u.col] 128 (0,0)):=by rw[←hw];exact Qac (o:=9) (Qac (o:=8) (Qac (o:=7) (Qac (o:=6) (hL5) (.string u.fn)) (.int .i64 u.off)) (.int .i64 u.ln)) (.int .i64 u.col)
   have hT6:=hXT.heap (by omega) hT5;have hO6:=Qea (Qb3 hO5 hXT (fun d hd=>.inr (fun c fr h=>by subst hd;rw[hL5]at h;cases h))) (show w.heap.size≤_ by omega);have hp6:=hp2.ext hXT (fun d k=>by subst k;omega);have hs6:=hXT.size;have hX6:=hX5.trans' hXT (fun d k=>.inr (by subst k;omega));have hpw:w.heap.size≤pb:=by omega
   clear hw hXT;clear hT5 hO5 hL5 hQ5 hA5 hp2 hX5 c_hQ_0 c_hQ_1 c_hQ_2 c_hQ_3 c_hL_6 f_L0 c_hL_7 f_L1 c_hL_8 f_L2 c_hL_9 f_L3;obtain⟨u11,q11,rfl⟩:∃a b,a2=a::b:=by cases a2 with | nil=>exact absurd rfl hp6.ne | cons a b=>exact⟨a,b,rfl⟩
   cases hx11:(u11.tx.toList==[40])with
   | false =>
    have hy:exact [40] (u11::q11)=none:=by simp[exact,tx,hx11]
    go_wp2_with fail
    refine(Qa9 hp6 hx11).mono ?_;rintro e w7⟨T9,v9,rfl,hp7,hF⟩;have hT7:=hF.heap (by omega) hT6;have hL7:=hF.heap (by omega) hL6;have hO7:=Qaj hO6 hF (fun d hd=>by omega);have hs7:=hF.size;have hX7:=hX6.trans hF;clear hT6 hL6 hO6 hX6 hp6;clear hF;have HY:=Hi hy;clear hy;have HR:=Hi (show Qa2 L E (u::q)=none by simp[Qa2,H1.out,H2.out,HY.out]);go_wp2;go_ret;rw[HR.out];exact⟨hX7.mono (fun d k=>.inl k),_,_,rfl⟩
   | true =>
    have HY11:=Hi (show exact [40] (u11::q11)=some (adv (u11::q11))by simp[exact,tx,hx11])
    go_wp2_with fail
    refine(Qa0 hp6 hx11).mono ?_;rintro e w7⟨rfl,hp7,hF⟩;have hT7:=hF.heap (by omega) hT6;have hL7:=hF.heap (by omega) hL6;have hO7:=Qaj hO6 hF (fun d hd=>by omega);have hs7:=hF.size;have hX7:=hX6.trans hF;clear hT6 hL6 hO6 hX6 hp6;clear hF;have hwy11:=(hw2).adv;have hly11:=(Qam hw2).len
    go_wp2_with fail
    refine(Qfb HL.out _ (adv (u11::q11)) hp7 hwy11 (by omega) (by omega) hL7).mono ?_;rintro e w8⟨hF,hr⟩;have hT8:=hF.heap (fun h=>by rcases h with h | h<;>omega) hT7;have hO8:=Qb3 hO7 hF (fun d hd=>by
     rcases hd with rfl | rfl
     ·exact .inl (by omega)
     ·exact .inr (fun c fr h=>by rw[hL7]at h;cases h))
    have hs8:=hF.size;have hX8:=hX7.trans' hF (fun d hd=>hd.imp id (fun h=>by subst h;exact hpw));cases hm:Qat L [112,114,105,110,99,105,112,97,108] (adv (u11::q11))with
    | none =>
     rw[hm]at hr;obtain⟨T9,v9,rfl⟩:=hr;clear hL7 hF;have HR:=Hi (show Qa2 L E (u::q)=none by simp[Qa2,H1.out,H2.out,HY11.out,hm]);go_wp2;go_ret;rw[HR.out];exact⟨hX8.mono (fun d k=>.inl k),_,_,rfl⟩
    | some p_scp =>
     obtain⟨s_scp,a_scp⟩:=p_scp;rw[hm]at hr;obtain⟨v_scp,rfl,hp8,hLn,scp8⟩:=hr;unfold Qa8 at hLn;have hL8:=hLn;have hw_scp:=(Qb6 hwy11 hm).wf hwy11;have hl_scp:=(Qb6 hwy11 hm).len;have H_scp:=Hi hm;clear hm hLn hF;clear hT7 hO7 hL7 hp7 hX7;obtain⟨u12,q12,rfl⟩:∃a b,a_scp=a::b:=by cases a_scp with | nil=>exact absurd rfl hp8.ne | cons a b=>exact⟨a,b,rfl⟩
     cases hx12:(u12.tx.toList==[44])with
     | false =>
      have hy:exact [44] (u12::q12)=none:=by simp[exact,tx,hx12]
      go_wp2_with fail
      refine(Qa9 hp8 hx12).mono ?_;rintro e w9⟨T9,v9,rfl,hp9,hF⟩;have scp9:=scp8.ext hF (fun d hd=>.inl (by subst hd;omega));have hT9:=hF.heap (by omega) hT8;have hL9:=hF.heap (by omega) hL8;have hO9:=Qaj hO8 hF (fun d hd=>by omega);have hs9:=hF.size;have hX9:=hX8.trans hF;clear hT8 hL8 hO8 hX8 hp8 scp8;clear hF;have HY:=Hi hy;clear hy;have HR:=Hi (show Qa2 L E (u::q)=none by simp[Qa2,H1.out,H2.out,HY11.out,H_scp.out,HY.out])
      go_wp2;go_ret;rw[HR.out];exact⟨hX9.mono (fun d k=>.inl k),_,_,rfl⟩
     | true =>
      have HY12:=Hi (show exact [44] (u12::q12)=some (adv (u12::q12))by simp[exact,tx,hx12])
      go_wp2_with fail
      refine(Qa0 hp8 hx12).mono ?_;rintro e w9⟨rfl,hp9,hF⟩;have scp9:=scp8.ext hF (fun d hd=>.inl (by subst hd;omega));have hT9:=hF.heap (by omega) hT8;have hL9:=hF.heap (by omega) hL8;have hO9:=Qaj hO8 hF (fun d hd=>by omega);have hs9:=hF.size;have hX9:=hX8.trans hF;clear hT8 hL8 hO8 hX8 hp8 scp8;clear hF;have hwy12:=(hw_scp).adv;have hly12:=(Qam hw_scp).len
      go_wp2_with fail
      refine(action_w HL.out _ (adv (u12::q12)) hp9 hwy12 (by omega) (by omega) hL9).mono ?_;rintro e w10⟨hF,hr⟩;have hT10:=hF.heap (fun h=>by rcases h with h | h<;>omega) hT9;have hO10:=Qb3 hO9 hF (fun d hd=>by
       rcases hd with rfl | rfl
       ·exact .inl (by omega)
       ·exact .inr (fun c fr h=>by rw[hL9]at h;cases h))
      have scp10:=scp9.ext hF (fun d hd=>by
       rcases hd with rfl | rfl
       ·exact .inl (by omega)
       ·exact .inr (fun c fr h=>by rw[hL9]at h;cases h))
      have hs10:=hF.size;have hX10:=hX9.trans' hF (fun d hd=>hd.imp id (fun h=>by subst h;exact hpw));cases hm:QaI L (adv (u12::q12))with
      | none =>
       rw[hm]at hr;obtain⟨T9,v9,rfl⟩:=hr;clear hL9 hF;have HR:=Hi (show Qa2 L E (u::q)=none by simp[Qa2,H1.out,H2.out,HY11.out,H_scp.out,HY12.out,hm]);go_wp2;go_ret;rw[HR.out];exact⟨hX10.mono (fun d k=>.inl k),_,_,rfl⟩
      | some p_sca =>
       obtain⟨s_sca,a_sca⟩:=p_sca;rw[hm]at hr;obtain⟨v_sca,rfl,hp10,hLn,sca10⟩:=hr;unfold Qa8 at hLn;have hL10:=hLn;have hw_sca:=(QcU hwy12 hm).wf hwy12;have hl_sca:=(QcU hwy12 hm).len;have H_sca:=Hi hm;clear hm hLn hF;clear hT9 hO9 hL9 scp9 hp9 hX9;obtain⟨u13,q13,rfl⟩:∃a b,a_sca=a::b:=by cases a_sca with | nil=>exact absurd rfl hp10.ne | cons a b=>exact⟨a,b,rfl⟩
       cases hx13:(u13.tx.toList==[44])with
       | false =>
        have hy:exact [44] (u13::q13)=none:=by simp[exact,tx,hx13]
        go_wp2_with fail
        refine(Qa9 hp10 hx13).mono ?_;rintro e w11⟨T9,v9,rfl,hp11,hF⟩;have scp11:=scp10.ext hF (fun d hd=>.inl (by subst hd;omega));have sca11:=sca10.ext hF (fun d hd=>.inl (by subst hd;omega));have hT11:=hF.heap (by omega) hT10;have hL11:=hF.heap (by omega) hL10;have hO11:=Qaj hO10 hF (fun d hd=>by omega);have hs11:=hF.size;have hX11:=hX10.trans hF;clear hT10 hL10 hO10 hX10 hp10 scp10 sca10;clear hF
        have HY:=Hi hy;clear hy;have HR:=Hi (show Qa2 L E (u::q)=none by simp[Qa2,H1.out,H2.out,HY11.out,H_scp.out,HY12.out,H_sca.out,HY.out]);go_wp2;go_ret;rw[HR.out];exact⟨hX11.mono (fun d k=>.inl k),_,_,rfl⟩
       | true =>
        have HY13:=Hi (show exact [44] (u13::q13)=some (adv (u13::q13))by simp[exact,tx,hx13])
        go_wp2_with fail
        refine(Qa0 hp10 hx13).mono ?_;rintro e w11⟨rfl,hp11,hF⟩;have scp11:=scp10.ext hF (fun d hd=>.inl (by subst hd;omega));have sca11:=sca10.ext hF (fun d hd=>.inl (by subst hd;omega));have hT11:=hF.heap (by omega) hT10;have hL11:=hF.heap (by omega) hL10;have hO11:=Qaj hO10 hF (fun d hd=>by omega);have hs11:=hF.size;have hX11:=hX10.trans hF;clear hT10 hL10 hO10 hX10 hp10 scp10 sca10;clear hF;have hwy13:=(hw_sca).adv
        have hly13:=(Qam hw_sca).len
        go_wp2_with fail
        refine(Qgc HL.out _ (adv (u13::q13)) hp11 hwy13 (by omega) (by omega) hL11).mono ?_;rintro e w12⟨hF,hr⟩;have hT12:=hF.heap (fun h=>by rcases h with h | h<;>omega) hT11;have hO12:=Qb3 hO11 hF (fun d hd=>by
         rcases hd with rfl | rfl
         ·exact .inl (by omega)
         ·exact .inr (fun c fr h=>by rw[hL11]at h;cases h))
        have scp12:=scp11.ext hF (fun d hd=>by
         rcases hd with rfl | rfl
         ·exact .inl (by omega)
         ·exact .inr (fun c fr h=>by rw[hL11]at h;cases h))
        have sca12:=sca11.ext hF (fun d hd=>by
         rcases hd with rfl | rfl
         ·exact .inl (by omega)
         ·exact .inr (fun c fr h=>by rw[hL11]at h;cases h))
        have hs12:=hF.size;have hX12:=hX11.trans' hF (fun d hd=>hd.imp id (fun h=>by subst h;exact hpw));cases hm:Qat L [114,101,115,111,117,114,99,101] (adv (u13::q13))with
        | none =>
         rw[hm]at hr;obtain⟨T9,v9,rfl⟩:=hr;clear hL11 hF;have HR:=Hi (show Qa2 L E (u::q)=none by simp[Qa2,H1.out,H2.out,HY11.out,H_scp.out,HY12.out,H_sca.out,HY13.out,hm]);go_wp2;go_ret;rw[HR.out];exact⟨hX12.mono (fun d k=>.inl k),_,_,rfl⟩
        | some p_scr =>
         obtain⟨s_scr,a_scr⟩:=p_scr;rw[hm]at hr;obtain⟨v_scr,rfl,hp12,hLn,scr12⟩:=hr;unfold Qa8 at hLn;have hL12:=hLn;have hw_scr:=(Qb6 hwy13 hm).wf hwy13;have hl_scr:=(Qb6 hwy13 hm).len;have H_scr:=Hi hm;clear hm hLn hF;clear hT11 hO11 hL11 scp11 sca11 hp11 hX11;obtain⟨u8,q8,rfl⟩:∃a b,a_scr=a::b:=by cases a_scr with | nil=>exact absurd rfl hp12.ne | cons a b=>exact⟨a,b,rfl⟩
         go_wp2_with fail
         refine(skip_c hp12).mono ?_;rintro e w13⟨rfl,hp13,hF⟩;have scp13:=scp12.ext hF (fun d hd=>.inl (by subst hd;omega));have sca13:=sca12.ext hF (fun d hd=>.inl (by subst hd;omega));have scr13:=scr12.ext hF (fun d hd=>.inl (by subst hd;omega));have hT13:=hF.heap (by omega) hT12;have hL13:=hF.heap (by omega) hL12;have hO13:=Qaj hO12 hF (fun d hd=>by omega);have hs13:=hF.size;have hX13:=hX12.trans hF
         clear hT12 hL12 hO12 hX12 hp12 scp12 sca12 scr12;clear hF;have hws:=(Qf1 hw_scr).wf hw_scr;have hls:=(Qf1 hw_scr).len;obtain⟨u14,q14,hc14⟩:∃a b,(Qds (u8::q8))=a::b:=by
          have:=hp13.ne;cases h:(Qds (u8::q8))with
          | nil=>exact absurd h this
          | cons a b=>exact⟨a,b,rfl⟩
         have hwq14:=hws;rw[hc14]at hwq14 hls hp13;have HC14:=Hi hc14;clear hc14;cases hx14:(u14.tx.toList==[41])with
         | false =>
          have hy:exact [41] (u14::q14)=none:=by simp[exact,tx,hx14]
          go_wp2_with fail
          refine(Qa9 hp13 hx14).mono ?_;rintro e w14⟨T9,v9,rfl,hp14,hF⟩;have scp14:=scp13.ext hF (fun d hd=>.inl (by subst hd;omega));have sca14:=sca13.ext hF (fun d hd=>.inl (by subst hd;omega));have scr14:=scr13.ext hF (fun d hd=>.inl (by subst hd;omega));have hT14:=hF.heap (by omega) hT13;have hL14:=hF.heap (by omega) hL13;have hO14:=Qaj hO13 hF (fun d hd=>by omega);have hs14:=hF.size;have hX14:=hX13.trans hF
          clear hT13 hL13 hO13 hX13 hp13 scp13 sca13 scr13;clear hF;have HY:=Hi hy;clear hy;have HR:=Hi (show Qa2 L E (u::q)=none by simp[Qa2,H1.out,H2.out,HY11.out,H_scp.out,HY12.out,H_sca.out,HY13.out,H_scr.out,HC14.out,HY.out]);go_wp2;go_ret;rw[HR.out];exact⟨hX14.mono (fun d k=>.inl k),_,_,rfl⟩
         | true =>
          have HY14:=Hi (show exact [41] (u14::q14)=some (adv (u14::q14))by simp[exact,tx,hx14])
          go_wp2_with fail
          refine(Qa0 hp13 hx14).mono ?_;rintro e w14⟨rfl,hp14,hF⟩;have scp14:=scp13.ext hF (fun d hd=>.inl (by subst hd;omega));have sca14:=sca13.ext hF (fun d hd=>.inl (by subst hd;omega));have scr14:=scr13.ext hF (fun d hd=>.inl (by subst hd;omega));have hT14:=hF.heap (by omega) hT13;have hL14:=hF.heap (by omega) hL13;have hO14:=Qaj hO13 hF (fun d hd=>by omega);have hs14:=hF.size;have hX14:=hX13.trans hF
          clear hT13 hL13 hO13 hX13 hp13 scp13 sca13 scr13;clear hF;have hwy14:=(hwq14).adv;have hly14:=(Qam hwq14).len
          go_wp2_with fail
          refine(conds_w HE.out HC.out _ (adv (u14::q14)) hp14 hwy14 (by omega) (by omega) (by omega) hL14).mono ?_;rintro e w15⟨hF,hr⟩;have hT15:=hF.heap (fun h=>by rcases h with h | h<;>omega) hT14;have hO15:=Qb3 hO14 hF (fun d hd=>by
           rcases hd with rfl | rfl
           ·exact .inl (by omega)
           ·exact .inr (fun c fr h=>by rw[hL14]at h;cases h))
          have scp15:=scp14.ext hF (fun d hd=>by
           rcases hd with rfl | rfl
           ·exact .inl (by omega)
           ·exact .inr (fun c fr h=>by rw[hL14]at h;cases h))
          have sca15:=sca14.ext hF (fun d hd=>by
           rcases hd with rfl | rfl
           ·exact .inl (by omega)
           ·exact .inr (fun c fr h=>by rw[hL14]at h;cases h))
          have scr15:=scr14.ext hF (fun d hd=>by
           rcases hd with rfl | rfl
           ·exact .inl (by omega)
           ·exact .inr (fun c fr h=>by rw[hL14]at h;cases h))
          have hs15:=hF.size;have hX15:=hX14.trans' hF (fun d hd=>hd.imp id (fun h=>by subst h;exact hpw));cases hm:conds E (adv (u14::q14))with
          | none =>
           rw[hm]at hr;obtain⟨T9,v9,rfl⟩:=hr;clear hL14 hF;have HR:=Hi (show Qa2 L E (u::q)=none by simp[Qa2,H1.out,H2.out,HY11.out,H_scp.out,HY12.out,H_sca.out,HY13.out,H_scr.out,HC14.out,HY14.out,hm]);go_wp2;go_ret;rw[HR.out];exact⟨hX15.mono (fun d k=>.inl k),_,_,rfl⟩
          | some p_c =>
           obtain⟨cs,a_c⟩:=p_c;rw[hm]at hr;obtain⟨rfl,hp15,pc,cc,cells,hLn,hOc0,hCc15⟩:=hr;unfold Qa8 at hLn;have hL15:=hLn;have hOc15:=Qea hOc0 (show w.heap.size≤_ by omega);have hw_c:=(Qdt HE.out _ _ _ _ _ hwy14 hm).wf hwy14;have H_c:=Hi hm;clear hm hLn hF hOc0;clear hT14 hO14 hL14 scp14 sca14 scr14 hp14 hX14;obtain⟨T_scp,x_scp,rfl⟩:=scp15.iface;obtain⟨T_sca,x_sca,rfl⟩:=sca15.iface;obtain⟨T_scr,x_scr,rfl⟩:=scr15.iface
           obtain⟨u15,q15,rfl⟩:∃a b,a_c=a::b:=by cases a_c with | nil=>exact absurd rfl hp15.ne | cons a b=>exact⟨a,b,rfl⟩
           cases hx15:(u15.tx.toList==[59])with
           | false =>
            have hy:exact [59] (u15::q15)=none:=by simp[exact,tx,hx15]
            go_wp2_with fail
            refine(Qa9 hp15 hx15).mono ?_;rintro e w16⟨T9,v9,rfl,hp16,hF⟩;have scp16:=scp15.ext hF (fun d hd=>.inl (by subst hd;omega));have sca16:=sca15.ext hF (fun d hd=>.inl (by subst hd;omega));have scr16:=scr15.ext hF (fun d hd=>.inl (by subst hd;omega));have hCc16:=hCc15.keep hF (fun d hd=>by omega);have hT16:=hF.heap (by omega) hT15;have hL16:=hF.heap (by omega) hL15;have hO16:=Qaj hO15 hF (fun d hd=>by omega)
            have hOc16:=Qaj hOc15 hF (fun d hd=>by omega);have hs16:=hF.size;have hX16:=hX15.trans hF;clear hCc15 hT15 hL15 hO15 hOc15 hX15 hp15 scp15 sca15 scr15;clear hF;have HY:=Hi hy;clear hy;have HR:=Hi (show Qa2 L E (u::q)=none by simp[Qa2,H1.out,H2.out,HY11.out,H_scp.out,HY12.out,H_sca.out,HY13.out,H_scr.out,HC14.out,HY14.out,H_c.out,HY.out]);go_wp2;go_ret;rw[HR.out];exact⟨hX16.mono (fun d k=>.inl k),_,_,rfl⟩
           | true =>
            have HY15:=Hi (show exact [59] (u15::q15)=some (adv (u15::q15))by simp[exact,tx,hx15])
            go_wp2_with fail
            refine(Qa0 hp15 hx15).mono ?_;rintro e w16⟨rfl,hp16,hF⟩;have scp16:=scp15.ext hF (fun d hd=>.inl (by subst hd;omega));have sca16:=sca15.ext hF (fun d hd=>.inl (by subst hd;omega));have scr16:=scr15.ext hF (fun d hd=>.inl (by subst hd;omega));have hCc16:=hCc15.keep hF (fun d hd=>by omega);have hT16:=hF.heap (by omega) hT15;have hL16:=hF.heap (by omega) hL15;have hO16:=Qaj hO15 hF (fun d hd=>by omega)
            have hOc16:=Qaj hOc15 hF (fun d hd=>by omega);have hs16:=hF.size;have hX16:=hX15.trans hF;clear hCc15 hT15 hL15 hO15 hOc15 hX15 hp15 scp15 sca15 scr15;clear hF;have hwy15:=(hw_c).adv;have hly15:=(Qam hw_c).len;have HR:=Hi (show Qa2 L E (u::q)=some (⟨ef,ns,s_scp,s_sca,s_scr,cs,u.fn,u.off,u.ln,u.col⟩,(adv (u15::q15)))by simp[Qa2,hd,H1.out,H2.out,HY11.out,H_scp.out,HY12.out,H_sca.out,HY13.out,H_scr.out,HC14.out,HY14.out,H_c.out,HY15.out])
            have c_hL_0:=Qaa (o:=0) hL16 rfl;have c_hT_0:=Qaa (o:=0) hT16 rfl;have f_T0:=Qae hT16 0;have c_hL_1:=Qaa (o:=1) hL16 rfl;have c_hT_1:=Qaa (o:=1) hT16 rfl;have f_T1:=Qae hT16 1;have c_hL_2:=Qaa (o:=2) hL16 rfl;have c_hT_2:=Qaa (o:=2) hT16 rfl;have f_T2:=Qae hT16 2;have c_hL_3:=Qaa (o:=3) hL16 rfl;have c_hT_3:=Qaa (o:=3) hT16 rfl;have f_T3:=Qae hT16 3;have c_hL_4:=Qaa (o:=4) hL16 rfl;have c_hT_4:=Qaa (o:=4) hT16 rfl
            have f_T4:=Qae hT16 4;have c_hL_5:=Qaa (o:=5) hL16 rfl;have c_hT_5:=Qaa (o:=5) hT16 rfl;have f_T5:=Qae hT16 5;have c_hL_6:=Qaa (o:=6) hL16 rfl;have c_hT_6:=Qaa (o:=6) hT16 rfl;have f_T6:=Qae hT16 6;have c_hL_7:=Qaa (o:=7) hL16 rfl;have c_hT_7:=Qaa (o:=7) hT16 rfl;have f_T7:=Qae hT16 7;have c_hL_8:=Qaa (o:=8) hL16 rfl;have c_hT_8:=Qaa (o:=8) hT16 rfl;have f_T8:=Qae hT16 8;have c_hL_9:=Qaa (o:=9) hL16 rfl
            have c_hT_9:=Qaa (o:=9) hT16 rfl;have f_T9:=Qae hT16 9
            go_upto_region 38 with(fail)
            obtain⟨w17,hw⟩:∃w17,((((((((((w16.setCell ⟨tb,0,none⟩ (.bool ef)).setCell ⟨tb,1,none⟩ (.slice pn ns.length cn)).setCell ⟨tb,2,none⟩ (.iface T_scp x_scp)).setCell ⟨tb,3,none⟩ (.iface T_sca x_sca)).setCell ⟨tb,4,none⟩ (.iface T_scr x_scr)).setCell ⟨tb,5,none⟩ (.slice pc cs.length cc)).setCell ⟨tb,6,none⟩ (.string u.fn)).setCell ⟨tb,7,none⟩ (.int .i64 u.off)).setCell ⟨tb,8,none⟩ (.int .i64 u.ln)).setCell ⟨tb,9,none⟩ (.int .i64 u.col))=w17:=⟨_,rfl⟩
            rw[hw];have hXT:Ext (·=tb) w16 w17:=by rw[←hw];exact((((((((((Ext.refl (·=tb) w16).set (p:=⟨tb,0,none⟩) (.inl rfl) (.bool ef)).set (p:=⟨tb,1,none⟩) (.inl rfl) (.slice pn ns.length cn)).set (p:=⟨tb,2,none⟩) (.inl rfl) (.iface T_scp x_scp)).set (p:=⟨tb,3,none⟩) (.inl rfl) (.iface T_sca x_sca)).set (p:=⟨tb,4,none⟩) (.inl rfl) (.iface T_scr x_scr)).set (p:=⟨tb,5,none⟩) (.inl rfl) (.slice pc cs.length cc)).set (p:=⟨tb,6,none⟩) (.inl rfl) (.string u.fn)).set (p:=⟨tb,7,none⟩) (.inl rfl) (.int .i64 u.off)).set (p:=⟨tb,8,none⟩) (.inl rfl) (.int .i64 u.ln)).set (p:=⟨tb,9,none⟩) (.inl rfl) (.int .i64 u.col)
            have hTN:w17.heap[tb]? =some (.cells #[.bool ef,.slice pn ns.length cn,.iface T_scp x_scp,.iface T_sca x_sca,.iface T_scr x_scr,.slice pc cs.length cc,.string u.fn,.int .i64 u.off,.int .i64 u.ln,.int .i64 u.col] TT (0,0)):=by rw[←hw];exact ten_set (.bool ef) (.slice pn ns.length cn) (.iface T_scp x_scp) (.iface T_sca x_sca) (.iface T_scr x_scr) (.slice pc cs.length cc) (.string u.fn) (.int .i64 u.off) (.int .i64 u.ln) (.int .i64 u.col) hT16
            have hON:=Qb3 hO16 hXT (fun d hd=>.inr (fun c fr h=>by subst hd;rw[hT16]at h;cases h;exact HTT.out.1 rfl));have hOcN:=Qb3 hOc16 hXT (fun d hd=>.inr (fun c fr h=>by subst hd;rw[hT16]at h;cases h;exact HTT.out.2.1 rfl));have scpN:=scp16.ext hXT (fun d hd=>.inr (fun c fr h=>by subst hd;rw[hT16]at h;cases h;exact HTT.out.2.2.1 rfl));have scaN:=sca16.ext hXT (fun d hd=>.inr (fun c fr h=>by subst hd;rw[hT16]at h;cases h;exact HTT.out.2.2.1 rfl))
            have scrN:=scr16.ext hXT (fun d hd=>.inr (fun c fr h=>by subst hd;rw[hT16]at h;cases h;exact HTT.out.2.2.1 rfl));have hCN:=hCc16.extG hXT (fun d hd T c fr h=>by subst hd;rw[hT16]at h;cases h;exact HTT.out.2.2.2);have hpN:=(htb.elim (fun htb=>hp16.ext hXT (fun d k=>by subst k;exact htb)) (fun htb=>hp16.extT hXT htb.1 htb.2.1 (fun o t=>htb.2.2 w16 o t (hT16.trans HT0.out.symm))));have hXN:=(hX16.mono (S':=fun d=>d=bp∨d=tb) (fun d k=>.inl k)).trans (hXT.mono (fun d k=>.inr k))
            have HZ:=Hi (show PolIs w17 base w.heap.size tb TT ⟨ef,ns,s_scp,s_sca,s_scr,cs,u.fn,u.off,u.ln,u.col⟩from⟨pn,cn,_,_,_,pc,cc,cells,hTN,hON,scpN,scaN,scrN,hOcN,hCN⟩);clear hw hXT hTN hON hOcN scpN scaN scrN hCN;clear hT16 hL16 hO16 hOc16 hCc16 scp16 sca16 scr16 hp16 hX16 c_hL_0 c_hT_0 f_T0 c_hL_1 c_hT_1 f_T1 c_hL_2 c_hT_2 f_T2 c_hL_3 c_hT_3 f_T3 c_hL_4 c_hT_4 f_T4 c_hL_5 c_hT_5 f_T5 c_hL_6 c_hT_6 f_T6 c_hL_7 c_hT_7 f_T7 c_hL_8 c_hT_8 f_T8 c_hL_9 c_hT_9 f_T9
            go_wp2;go_ret;rw[HR.out];exact⟨hXN,rfl,hpN,HZ.out⟩
end Go.Proofs.Pg
