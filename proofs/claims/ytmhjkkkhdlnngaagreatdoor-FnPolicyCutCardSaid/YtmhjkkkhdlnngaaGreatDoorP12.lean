/- FnPolicyCut, part 12. -/
import Derived.Test.YtmhjkkkhdlnngaaGreatDoorP02
import Derived.Test.YtmhjkkkhdlnngaaGreatDoorP06
import Derived.RegionTactic
import Derived.ChangeAlike
import Derived.Deep.DeepCutAuto
import Derived.Lib.OthersKept
import Derived.Lib.BufferOwn
import Derived.Lib.BufferSrc
import Derived.Laws.IdiomCopy
import Derived.BigCall
import Derived.BigGuard
set_option linter.all false
set_option maxRecDepth 100000
set_option maxHeartbeats 0
namespace Go.Proofs.Pg
open Go.RowKit Go.Proofs.Tryz
attribute [local go_sem] Oper.semAt_some
variable {w w':World}{lo b:Nat}{F:Fd}{tb:List UInt8}
theorem Ext.setb{b:Nat}{x y:World}(h:Ext (fun d=>d=b) x y)(o:Nat)(v:Value):Ext (fun d=>d=b) x (y.setCell ⟨b,o,none⟩ v):=h.set (.inl rfl) v
theorem Sn.hlo(h:Sn w lo b F tb):lo≤b:=h.1
theorem Sn.notok(h:Sn w lo b F tb):¬OkB w b:=fun⟨u,hu⟩=>by
 have:=h.c_pos;simp[World.cell?,hu]at this
theorem Qec(h:Sn w lo b F tb)(m:ByteArray)(hw:lo≤w.heap.size) :
  Calls prog 160 #[.pointer (some ⟨b,0,none⟩),.string m] w fun e w'=>e=.returned (.tuple #[])∧(∃x T,∃p:EVal lo w' T,Sn w' lo b {F with te:=x,er:=.iface T p.1} tb)∧Ext (fun d=>d=b) w w':=by
 have hlt:=h.lt;have c0:=h.c_pos;have c1:=h.c_lcl;have c2:=h.c_te;have c3:=h.c_er;have f:=h.free 1037;have g:=h.free 1039;have H:=Hi h;clear h;go_enter func160,ntmps160;go_wp2
 go_region
 all_goals
  go_wp2_with fail
  refine(QaV _ _ (base:=lo) (by simpa using hw)).mono ?_;rintro e w2⟨T,x,rfl,hb⟩;have h1:=((H.out.s_te _).drew).old hb;have lt2:=h1.lt;have d3:=h1.c_er;have f3:=h1.free 1039;have HB:=Hi hb;clear hb;have H1:=Hi h1;clear h1;go_wp2
  go_end0
  exact⟨rfl,⟨_,_,x.to (fun _ h=>Qiq h),H1.out.s_er _⟩,(((Ext.refl (fun d=>d=b) w).setb _ _).drew.trans (.below HB.out)).setb _ _⟩
end Go.Proofs.Pg
namespace Go.Proofs.Pg
open Go.RowKit Go.Proofs.Tryz
structure Rdr where
 T:TypeId
 f:FuncId
 rb:Nat
 R:World→List UInt8→Prop
abbrev Rdr.ptr(r:Rdr):Value:=.pointer (some ⟨r.rb,0,none⟩)
abbrev Rdr.val(r:Rdr):Value:=.iface r.T r.ptr
def spl(cur:Array Value)(off:Nat)(l:List UInt8):Array Value:=(cur.toList.take off++Lib.byteCells l++cur.toList.drop (off+l.length)).toArray
def Got(r:Rdr)(w:World)(l:List UInt8)(b off n:Nat)(cur:Array Value)(T:TypeId)(e:Ending)(w':World):Prop :=
 ∃k:Nat,1≤k∧k≤n∧k≤l.length∧e=.returned (.tuple #[.int .i64 k,.nilIface])∧w'.heap[b]? =some (.cells (spl cur off (l.take k)) T (0,0))∧Ext (fun d=>d=r.rb∨d=b) w w'∧r.R w' (l.drop k)
structure RdLaw(r:Rdr)(lo:Nat):Prop where
 hrb:r.rb<lo
 h15:15≤r.rb
 ahead:∀w,(nilAhead 580 r.T r.ptr "Read").run prog w=.ok (some false) w
 meth:∀w,(Go.method 580 r.T r.ptr "Read").run prog w=.ok (r.f,r.ptr) w
 ent:∀args w,(callFunc r.f args).run prog w=.ok (.enter r.f args) w
 keep:∀w w' l,r.R w l→Ext (fun d=>lo≤d) w w'→r.R w' l
 atEnd:∀w b off n cap q,r.R w []→n≠0→w.cell? ⟨0,0,none⟩=some q→Calls prog r.f #[r.ptr,.slice (some ⟨b,off,none⟩) n cap] w fun e w'=>e=.returned (.tuple #[.int .i64 0,q])∧Ext (fun d=>d=r.rb) w w'∧r.R w' []
 more:∀w l b off n cap cur T,r.R w l→l≠[]→n≠0→n≤2000→n≤cap→cap≤maxLen→T≠348→lo≤b→w.heap[b]? =some (.cells cur T (0,0))→off+n≤cur.size→Calls prog r.f #[r.ptr,.slice (some ⟨b,off,none⟩) n cap] w (Got r w l b off n cur T)
structure Sc where
 p:Nat
 ln:Int
 col:Int
 lll:Int
 lcl:Nat
 er:Bool
 ts:Option Nat
 ch:Int
 po:Int
 pl:Int
 pc:Int
def tokF(t:List UInt8)(off pos lcl:Nat)(tp:Int)(tb:List UInt8):Option Nat→Prop
 | none=>tp=-1
 | some s=>∃k:Nat,tp=k∧k+lcl≤pos∧s≤off+k∧tb=(t.drop s).take (off+k-s)
structure SWF(t:List UInt8)(r:Rdr)(σ:Sc)(q:Nat)(F:Fd)(tb:List UInt8)(off pos en:Nat):Prop where
 fsrc:F.src=r.val
 fpos:F.pos=pos
 fen:F.en=en
 foff:F.off=off
 le1:pos≤en
 le2:en≤1024
 hp:off+pos=σ.p
 len:off+en≤t.length
 buf:∀j,j<en→F.buf j=t.getD (off+j) 0
 sen:F.buf en=128
 fln:F.ln=σ.ln
 fcol:F.col=σ.col
 flll:F.lll=σ.lll
 flcl:F.lcl=σ.lcl
 lcle:q≤pos
 er0:σ.er=false→F.er=.nilIface
 er1:σ.er=true→∃T p,F.er=.iface T p
 fch:F.ch=σ.ch
 fpf:F.pf=.string ⟨#[]⟩
 fpo:F.po=σ.po
 fpl:F.pl=σ.pl
 fpc:F.pc=σ.pc
 tok:tokF t off pos q F.tp tb σ.ts
structure SWX(t:List UInt8)(r:Rdr)(lo b:Nat)(σ:Sc)(q:Nat)(w:World)(F:Fd)(tb:List UInt8)(off pos en:Nat):Prop where
 sn:Sn w lo b F tb
 wf:SWF t r σ q F tb off pos en
 rd:r.R w (t.drop (off+en))
 tabs:Lib.Utf8Tabs 1 2 w
 eof:∃a,w.cell? ⟨0,0,none⟩=some (.iface 346 (.pointer (some a)))
 hlo:lo≤w.heap.size
 h15:15≤lo
 hlen:t.length≤1000000
 law:RdLaw r lo
 erk:σ.er=true→∃T p,F.er=.iface T p∧EIs r.rb w T p
def SW(t:List UInt8)(r:Rdr)(lo b:Nat)(σ:Sc)(w:World):Prop:=∃F tb off pos en,SWX t r lo b σ σ.lcl w F tb off pos en
def nxt(t:List UInt8)(σ:Sc):Int×Sc :=
 if t.length≤σ.p then(-1,{σ with col:=if 0<σ.lcl then wrap64 (σ.col+1)else σ.col,lcl:=0})
 else if(dec (t.drop σ.p)).1=65533∧(dec (t.drop σ.p)).2=1 then(65533,{σ with p:=σ.p+1,lcl:=1,col:=wrap64 (σ.col+1),er:=true})
 else if(dec (t.drop σ.p)).1=0 then(0,{σ with p:=σ.p+(dec (t.drop σ.p)).2,lcl:=(dec (t.drop σ.p)).2,col:=wrap64 (σ.col+1),er:=true})
 else if(dec (t.drop σ.p)).1=10 then(10,{σ with p:=σ.p+(dec (t.drop σ.p)).2,lcl:=(dec (t.drop σ.p)).2,lll:=wrap64 (σ.col+1),col:=0,ln:=wrap64 (σ.ln+1)})
 else((dec (t.drop σ.p)).1,{σ with p:=σ.p+(dec (t.drop σ.p)).2,lcl:=(dec (t.drop σ.p)).2,col:=wrap64 (σ.col+1)})
def SB(rb b lo:Nat)(w:World):Nat→Prop:=fun d=>d=rb∨d=b∨(lo≤d∧∃c fr,w.heap[d]? =some (.cells c 5 fr))
def Fr(rb b lo:Nat)(w w':World):Prop:=Ext (SB rb b lo w) w w'
theorem Fr.refl(rb b lo:Nat)(w:World):Fr rb b lo w w:=Ext.refl _ _
theorem Fr.trans{rb b lo:Nat}{x y z:World}(h:Fr rb b lo x y)(k:Fr rb b lo y z):Fr rb b lo x z :=
 ⟨k.os.trans h.os,k.tape.trans h.tape,k.output.trans h.output,Xe h.size k.size,fun d hd hs=>by
  have e:=h.block d hd hs;refine(k.block d (Nat.lt_of_lt_of_le hd h.size) ?_).trans e;rintro(rfl | rfl |⟨h1,c,fr,h2⟩)
  ·exact hs (.inl rfl)
  ·exact hs (.inr (.inl rfl))
  ·exact hs (.inr (.inr ⟨h1,c,fr,e▸h2⟩)),fun d hd=>k.ok d (h.ok d hd)⟩
theorem Fr.set{rb b lo:Nat}{x y:World}(h:Fr rb b lo x y)(o:Nat)(v:Value):Fr rb b lo x (y.setCell ⟨b,o,none⟩ v):=Ext.set h (.inl (.inr (.inl rfl))) v
theorem Fr.drew{rb b lo:Nat}{x y:World}(h:Fr rb b lo x y):Fr rb b lo x y.drew:=Ext.drew h
theorem Fr.drewN{rb b lo:Nat}{x y:World}(h:Fr rb b lo x y)(n:Nat):Fr rb b lo x (y.drewN n):=Ext.drewN h n
theorem Fr.alloc{rb b lo:Nat}{x y:World}(h:Fr rb b lo x y)(o:Obj):Fr rb b lo x (y.alloc o):=Ext.alloc h o
theorem Fr.below{rb b lo:Nat}{x y:World}(h:Below x.heap.size x y):Fr rb b lo x y:=Ext.below h
theorem Fr.kept{rb b lo:Nat}{x y:World}(h:Below lo x y)(k:Lib.OthersKept 5 (some b) x y)(hb:¬OkB x b):Fr rb b lo x y :=
 ⟨h.os,h.tape,h.output,h.size,fun d hd hs=>by
  by_cases hl:d<lo
  ·exact h.block d hl
  ·obtain⟨o,ho⟩:∃o,x.heap[d]? =some o:=⟨_,Array.getElem?_eq_getElem hd⟩
   rw[ho];refine k d o ho (fun e=>hs (.inr (.inl (Xd e)))) (fun c fz e=>hs (.inr (.inr ⟨by omega,c,fz,e▸ho⟩))),fun d ⟨u,hd⟩=>⟨u,k d _ hd (fun e=>hb (Xd e▸⟨u,hd⟩)) (fun c fz e=>by injection e with _ e _;exact absurd e (by decide))⟩⟩
theorem Fr.rd{rb b lo:Nat}{x y:World}(h:Ext (fun d=>d=rb∨d=b) x y):Fr rb b lo x y:=h.mono fun d hd=>hd.elim .inl (fun e=>.inr (.inl e))
theorem Fr.toBelow{rb b lo:Nat}{x y:World}(h:Fr rb b lo x y)(hb:lo≤b){d:Nat}(hd:d<lo)(hr:d≠rb)(hx:lo≤x.heap.size):y.heap[d]? =x.heap[d]? :=
 h.block d (by omega) (by rintro (e | e | ⟨e,_⟩)<;>omega)
def Qdd(t:List UInt8)(r:Rdr)(lo b:Nat)(σ:Sc)(w:World)(e:Ending)(w':World):Prop :=
 e=.returned (.int .i32 (nxt t σ).1)∧SW t r lo b (nxt t σ).2 w'∧Fr r.rb b lo w w'
theorem Qba{P:Program}{c:Code}{Q:Exit→Act→World→Prop}{a:Act}{W:World}(h:∀w2,w2=W→c.wp P Q a w2):c.wp P Q a W:=h W rfl
end Go.Proofs.Pg
namespace Go.Proofs.Pg
open Go.RowKit Go.Proofs.Tryz
attribute [local go_sem] Oper.semAt_some
theorem QcE(b k j:Nat):(⟨b,k,none⟩:Addr).add j=⟨b,k+j,none⟩:=by unfold Addr.add;split<;>simp_all
theorem Qhc:(prog.info? 5).map (·.size)=some 1:=by kernel_rfl
theorem Qhd:prog.underlying 78=some (.slice 5):=underlying78
theorem write_in(T:TypeId)(R:Nat→Option Value)(B b q:Nat)(bs cs:List Value)(k n c:Nat)(w:World)(h:LibA.IsBuffer T R 5 B b q bs w)(hBw:B≤w.heap.size)(h1:∀v∈bs,v.oneCell'=true)
  (hn:cs.length=n)(hkq:k+n≤q)(hR:∀j v,cs[j]? =some v→R (k+j)=some v)(h1c:∀v∈cs,v.oneCell'=true)(hlim:bs.length+n≤140737488355328) :
  Calls prog 159 #[.pointer (some ⟨b,q,none⟩),.slice (some ⟨b,k,none⟩) n c] w fun e w'=>e=.returned (.tuple #[.int .i64 n,.nilIface])∧LibA.IsBuffer T R 5 B b q (bs++cs) w'∧Below B w w'∧Lib.OthersKept 5 (some b) w w':=by
 obtain⟨hB,v0,lr,hbk,-,-⟩:=id h;have c2:w.cell? ⟨b,q+2,none⟩=some (.int .i8 lr):=hbk.c2;have f2:w.frozen? ⟨b,q+2,none⟩=false:=hbk.f (q+2);have h':=h.setLast 0;have hbel0:Below B w (w.setCell ⟨b,q+2,none⟩ (.int .i8 0)):=(Below.refl B w).setCell (p:=⟨b,q+2,none⟩) hB _;have hk0:Lib.OthersKept 5 (some b) w (w.setCell ⟨b,q+2,none⟩ (.int .i8 0)):=(Lib.OthersKept.refl _ _ w).setCell ⟨b,q+2,none⟩ rfl _;have hBw':B≤(w.setCell ⟨b,q+2,none⟩ (.int .i8 0)).heap.size:=by simpa [World.setCell]using hBw
 clear hbk v0;by_cases hs0:n=0
 ·subst hs0
  have hc0:cs=[]:=List.eq_nil_of_length_eq_zero hn;subst hc0;have hce:∀d dLen dCap W,(Builtin.copy_ #[78,78] 3 #[.slice d dLen dCap,.slice (some ⟨b,k,none⟩) 0 c]).run prog W=.ok (goInt 0) W:=fun d dLen dCap W=>run_copy_none W 78 78 3 5 d (some ⟨b,k,none⟩) dLen dCap 0 c Qhd Qhc (by simp)
  have hT:∀W,LibA.IsBuffer T R 5 B b q bs W→Calls prog 180 #[.pointer (some ⟨b,q,none⟩),.int .i64 0] W _:=fun W hW=>Tryz.Buffer_tryGrow_at T R B b q 0 bs W hW
  have H':=Hi h';clear h';go_enter func159,ntmps159
  go_wp2_with(go_at_call 180;refine(hT _ ?_).mono ?_)
  ·exact H'.out
  rintro e W1(⟨rfl,xs,hxl,hI,hbel,hk,hg⟩|⟨rfl,rfl,hnr⟩)
  ·clear c2 f2 hT
   have hx0:xs=[]:=List.eq_nil_of_length_eq_zero hxl;subst hx0;rw[List.append_nil]at hI;obtain⟨-,lr2,hc⟩:=hI.cases;rcases hc with⟨hb0,hbk2⟩ | ⟨g,cap,cur,hbk2,-,-,hnc,hcm,-,-,-⟩
   ·subst hb0
    have d0:W1.cell? ⟨b,q,none⟩=some (.slice none 0 0):=hbk2.c0;go_wp2
    all_goals(go_ret2;first | exact⟨rfl,hI,hbel0.trans hbel,hk0.trans hk⟩ | exact⟨by simp,by simpa using hI,hbel0.trans hbel,hk0.trans hk⟩)
   ·have d0:W1.cell? ⟨b,q,none⟩=some (.slice (some ⟨g,0,none⟩) bs.length cap):=hbk2.c0
    unfold maxLen at hcm;go_wp2
    all_goals(go_ret2;first | exact⟨rfl,hI,hbel0.trans hbel,hk0.trans hk⟩ | exact⟨by simp,by simpa using hI,hbel0.trans hbel,hk0.trans hk⟩)
  ·obtain⟨_,_,_,_,hlt⟩:=hnr
   omega
 ·have H':=Hi h';clear h'
  go_enter func159,ntmps159
  go_wp2_with(go_at_call 180;refine(Tryz.Buffer_tryGrow_at T R B b q n bs _ ?_).mono ?_)
  ·exact H'.out
  rintro e W1(⟨rfl,xs,hxl,hI,hbel,hk,hg⟩|⟨rfl,rfl,hnr⟩)
  ·have hbelW:=hbel0.trans hbel
   have hkW:=hk0.trans hk;have hsrc1:∀j v,cs[j]? =some v→W1.cell? ((⟨b,k,none⟩:Addr).add j)=some v:=fun j v hj=>by
    have hlt:j<cs.length:=(List.getElem?_eq_some_iff.1 hj).1;rw[QcE];exact(hI.rest (k+j) (by omega)).trans (hR j v hj)
   clear hbel hbel0 hBw' c2 f2;obtain⟨-,lr2,hc⟩:=hI.cases;rcases hc with⟨hnil,-⟩ | ⟨g,cap,cur,hbk2,hBg,hg,hnc,hcm,hcs,htk,hgb⟩
   ·exact absurd (congrArg List.length hnil) (by rw[List.length_append,hxl,List.length_nil];omega)
   ·rw[List.length_append,hxl]at hbk2 hnc htk
    have d0:W1.cell? ⟨b,q,none⟩=some (.slice (some ⟨g,0,none⟩) (bs.length+n) cap):=hbk2.c0;have hne:¬cap=bs.length:=by omega
    have hcp:=run_copy_row (P:=prog) W1 78 78 3 5 g bs.length n (cap-bs.length) ⟨b,k,none⟩ n c cur 5 cs Qhd Qhc hg (by rw[hn];exact(Nat.min_self n).symm) hsrc1 (by rw[hn];omega) h1c;rw[hn]at hcp;have hcm':=hcm;unfold maxLen at hcm';have HR:=Hi hR;clear hR;have HS:=Hi hsrc1;clear hsrc1;go_wp2
    go_ret2
    obtain⟨r1,r2⟩:=LibA.written_end (news:=cs) (l:=bs.length) hB (by rw[hn];exact hbk2) hBg hg hcm hcs hgb (by rw[hn];exact hnc);have e1:cur.toList.take bs.length=bs:=by
     have h3:=congrArg (List.take bs.length) htk
     rwa [List.take_take,Nat.min_eq_left (Nat.le_add_right _ _),List.take_left' rfl]at h3
    rw[e1,hn]at r1 r2;refine⟨rfl,?_,?_,hkW.setRow hg _⟩<;>rw[e1,←List.append_assoc]
    ·exact r1
    ·exact hbelW.trans r2
  ·go_wp2_with(go_at_call 181;refine(Tryz.Buffer_grow_at T R B b q n bs _ ?_ ?_ ?_ h1 hlim).mono ?_)
   ·exact H'.out
   ·exact hnr
   ·exact hBw'
   rintro e W1⟨rfl,xs,hxl,hI,hbel,hk,hg⟩;have hbelW:=hbel0.trans hbel;have hkW:=hk0.trans hk;have hsrc1:∀j v,cs[j]? =some v→W1.cell? ((⟨b,k,none⟩:Addr).add j)=some v:=fun j v hj=>by
    have hlt:j<cs.length:=(List.getElem?_eq_some_iff.1 hj).1;rw[QcE];exact(hI.rest (k+j) (by omega)).trans (hR j v hj)
   clear hbel hbel0 hBw' c2 f2 hnr;obtain⟨-,lr2,hc⟩:=hI.cases;rcases hc with⟨hnil,-⟩ | ⟨g,cap,cur,hbk2,hBg,hg,hnc,hcm,hcs,htk,hgb⟩
   ·exact absurd (congrArg List.length hnil) (by rw[List.length_append,hxl,List.length_nil];omega)
   ·rw[List.length_append,hxl]at hbk2 hnc htk
    have d0:W1.cell? ⟨b,q,none⟩=some (.slice (some ⟨g,0,none⟩) (bs.length+n) cap):=hbk2.c0;have hne:¬cap=bs.length:=by omega
    have hcp:=run_copy_row (P:=prog) W1 78 78 3 5 g bs.length n (cap-bs.length) ⟨b,k,none⟩ n c cur 5 cs Qhd Qhc hg (by rw[hn];exact(Nat.min_self n).symm) hsrc1 (by rw[hn];omega) h1c;rw[hn]at hcp;have hcm':=hcm;unfold maxLen at hcm';have HR:=Hi hR;clear hR;have HS:=Hi hsrc1;clear hsrc1;go_wp2
    go_ret2
    obtain⟨r1,r2⟩:=LibA.written_end (news:=cs) (l:=bs.length) hB (by rw[hn];exact hbk2) hBg hg hcm hcs hgb (by rw[hn];exact hnc);have e1:cur.toList.take bs.length=bs:=by
     have h3:=congrArg (List.take bs.length) htk
     rwa [List.take_take,Nat.min_eq_left (Nat.le_add_right _ _),List.take_left' rfl]at h3
    rw[e1,hn]at r1 r2;refine⟨rfl,?_,?_,hkW.setRow hg _⟩<;>rw[e1,←List.append_assoc]
    ·exact r1
    ·exact hbelW.trans r2
variable {w w':World}{lo b:Nat}{F:Fd}{tb:List UInt8}
theorem Qhe{cur:Array Value}{off:Nat}{l:List UInt8}(h:off+l.length≤cur.size)(i:Nat) :
  (spl cur off l)[i]? =if i<off then cur[i]? else if i<off+l.length then some (.int .u8 ((l.getD (i-off) 0).toNat:Int))else cur[i]? := by
 unfold spl;have h1:(cur.toList.take off).length=off:=by rw[List.length_take,Array.length_toList];omega
 have h2:(Lib.byteCells l).length=l.length:=Lib.byteCells_length _;rw[List.getElem?_toArray];split
 ·rename_i hi
  rw[List.append_assoc,List.getElem?_append_left (by omega),List.getElem?_take_of_lt hi,Array.getElem?_toList]
 ·rename_i hi
  split
  ·rename_i hj
   rw[List.getElem?_append_left (by rw[List.length_append];omega),List.getElem?_append_right (by omega),h1];unfold Lib.byteCells;rw[List.getElem?_map,List.getD_eq_getElem?_getD];rw[List.getElem?_eq_getElem (show i-off<l.length by omega)];rfl
  ·rename_i hj
   rw[List.getElem?_append_right (by rw[List.length_append];omega),List.length_append,h1,h2,List.getElem?_drop,Array.getElem?_toList]
   congr 1;omega
theorem Qdj{S:Nat→Prop}{w w':World}{base:Nat}{e:TypeId}{size:Nat}{v:Value}{n:Nat}{xs:List Value}(h:w.ownsRow base e size v n xs)(he:Ext S w w')(hs:∀d,S d→d<base∨∀c fr,w.heap[d]?≠some (.cells c e fr)):w'.ownsRow base e size v n xs:=by
 obtain⟨h1,h2⟩:=h;refine⟨h1,?_⟩;rcases h2 with h | ⟨g,cap,cur,a,b,c,d⟩
 ·exact .inl h
 ·exact .inr ⟨g,cap,cur,a,b,he.heap (fun hS=>(hs _ hS).elim (fun k=>by omega) (fun k=>k _ _ c)) c,d⟩
theorem Sn.block(h:Sn w lo b F tb):∃cur:Array Value,w.heap[b]? =some (.cells cur 249 (0,0))∧1025<cur.size∧∀i,i<1033∨1036≤i→cur[i]? =RF F i:=by
 obtain⟨hB,v,lr,⟨cs,hbk,h0,h1,h2,hr⟩,_⟩:=h;refine⟨cs,hbk,?_,hr⟩;have:=(Array.getElem?_eq_some_iff.1 h0).1;omega
theorem Sn.spliced(h:Sn w lo b F tb){cur:Array Value}(hb:w.heap[b]? =some (.cells cur 249 (0,0))){i:Nat}{l:List UInt8}(hb':w'.heap[b]? =some (.cells (spl cur (1+i) l) 249 (0,0)))(hi:i+l.length≤1025)
  {S:Nat→Prop}(he:Ext S w w')(hs:∀d,S d→d<lo∨d=b):Sn w' lo b {F with buf:=fun j=>if i≤j∧j<i+l.length then l.getD (j-i) 0 else F.buf j} tb:=by
 obtain⟨hB,v,lr,⟨cs,hbk,h0,h1,h2,hr⟩,hown,hne⟩:=h;have e:cs=cur:=by rw[hbk]at hb;injection hb with hb;injection hb
 subst e;have hsz:=(Array.getElem?_eq_some_iff.1 h0).1;have hfit:1+i+l.length≤cs.size:=by omega
 have hg:∀x,1025<x→(spl cs (1+i) l)[x]? =cs[x]? := fun x hx=>by rw[Qhe hfit,if_neg (by omega),if_neg (by omega)]
 refine⟨hB,v,lr,⟨_,hb',(hg 1033 (by omega)).trans h0,(hg 1034 (by omega)).trans h1,(hg 1035 (by omega)).trans h2,fun x hx=>?_⟩,Qdj hown he ?_,hne⟩
 ·rw[Qhe hfit]
  by_cases hx0:x<1+i
  ·rw[if_pos hx0,hr x hx]
   unfold RF;by_cases h00:x=0
   ·rw[if_pos h00,if_pos h00]
   ·rw[if_neg h00,if_neg h00,if_pos (by omega),if_pos (by omega)]
    simp only;rw[if_neg (by omega)]
  ·rw[if_neg hx0]
   by_cases hx1:x<1+i+l.length
   ·rw[if_pos hx1]
    unfold RF;rw[if_neg (by omega),if_pos (by omega)];simp only;rw[if_pos (by omega),show x-(1+i)=x-1-i by omega]
   ·rw[if_neg hx1,hr x hx]
    unfold RF;have hn0:¬x=0:=by omega
    rw[if_neg hn0,if_neg hn0];by_cases hx2:x≤1025
    ·rw[if_pos hx2,if_pos hx2]
     simp only;rw[if_neg (by omega)]
    ·rw[if_neg hx2,if_neg hx2]
 ·intro d hd
  rcases hs d hd with h | rfl
  ·exact .inl h
  ·right
   intro c fr hc;rw[hbk]at hc
   injection hc with hc
   injection hc with _ hc _
   exact absurd hc (by decide)
theorem Qhf(h:Sn w lo b F tb)(k n c:Nat)(hk:k+n≤1025)(hlim:tb.length+n≤1000000)(hw:lo≤w.heap.size) :
  Calls prog 159 #[.pointer (some ⟨b,1033,none⟩),.slice (some ⟨b,1+k,none⟩) n c] w fun e w'=>e=.returned (.tuple #[.int .i64 n,.nilIface])∧Sn w' lo b F (tb++(List.range n).map (fun j=>F.buf (k+j)))∧Below lo w w'∧Lib.OthersKept 5 (some b) w w':=by
 refine(write_in 249 (RF F) lo b 1033 (Lib.byteCells tb) (Lib.byteCells ((List.range n).map (fun j=>F.buf (k+j)))) (1+k) n c w h hw (Lib.byteCells_one _) (by rw[Lib.byteCells_length];simp) (by omega) ?_ (Lib.byteCells_one _) (by rw[Lib.byteCells_length];omega)).mono ?_
 ·intro j v hj
  unfold Lib.byteCells at hj;rw[List.map_map,List.getElem?_map]at hj;cases hx:(List.range n)[j]? with
  | none=>rw[hx]at hj;cases hj
  | some x =>
   rw[hx]at hj;obtain⟨hlt,he⟩:=List.getElem?_eq_some_iff.1 hx;rw[List.getElem_range]at he;subst he;have hlt':j<n:=by simpa using hlt
   cases hj;unfold RF;rw[if_neg (by omega),if_pos (by omega),show 1+k+j-1=k+j by omega];rfl
 ·rintro e w'⟨rfl,h1,h2,h3⟩
  refine⟨rfl,?_,h2,h3⟩;unfold Sn;rw[show Lib.byteCells (tb++(List.range n).map (fun j=>F.buf (k+j)))=Lib.byteCells tb++Lib.byteCells ((List.range n).map (fun j=>F.buf (k+j)))by unfold Lib.byteCells;rw[List.map_append]];exact h1
theorem QdL{l m:List UInt8}(h0:l≠[])(h:∀n y1 y2 y3,l.length≤n→y1<256→y2<256→y3<256→(1<l.length→y1=(l.getD 1 0).toNat)→(2<l.length→y2=(l.getD 2 0).toNat)→(3<l.length→y3=(l.getD 3 0).toNat) →
  Lib.decodeN n (l.getD 0 0).toNat y1 y2 y3=Lib.decodeN l.length (l.getD 0 0).toNat (l.getD 1 0).toNat (l.getD 2 0).toNat (l.getD 3 0).toNat):dec (l++m)=dec l:=by
 have hl:0<l.length:=List.length_pos_iff.2 h0;have g:∀k,k<l.length→((l++m).getD k 0).toNat=(l.getD k 0).toNat:=fun k hk=>by
  rw[List.getD_eq_getElem?_getD,List.getD_eq_getElem?_getD,List.getElem?_append_left hk]
 unfold dec;rw[if_neg (by rw[List.length_append];omega),if_neg (by omega),g 0 hl];exact h _ _ _ _ (by rw[List.length_append];omega) (UInt8.toNat_lt _) (UInt8.toNat_lt _) (UInt8.toNat_lt _) (g 1) (g 2) (g 3)
theorem dec_long{l m:List UInt8}(h:4≤l.length):dec (l++m)=dec l:=by
 refine QdL (by rintro rfl;simp at h) fun n y1 y2 y3 hn h1 h2 h3 e1 e2 e3=>?_
 refine Qc2 (by omega) hn (UInt8.toNat_lt _) (UInt8.toNat_lt _) (UInt8.toNat_lt _) h1 h2 h3 e1 e2 e3 ?_ (UInt8.toNat_lt _);rcases Lib.firstT_cases (l.getD 0 0).toNat with hX | hX | hX | hX | hX | hX | hX | hX | hX<;>omega
theorem Qe0{l:List UInt8}(h0:l≠[])(h:(l.getD 0 0).toNat<128):dec l=((l.getD 0 0).toNat,1):=by
 have hl:0<l.length:=List.length_pos_iff.2 h0;unfold dec;rw[if_neg (by omega)];unfold Lib.decodeN;rw[if_pos h]
theorem Qco{l:List UInt8}(h0:l≠[]):1≤(dec l).2∧(dec l).2≤l.length∧(dec l).2≤4:=by
 have hl:0<l.length:=List.length_pos_iff.2 h0;unfold dec;rw[if_neg (by omega)];unfold Lib.decodeN
 repeat' split
 all_goals(simp only;omega)
theorem Qed(l:List UInt8):(dec l).1<2097152:=by
 unfold dec;split
 ·decide
 ·have:=UInt8.toNat_lt (l.getD 0 0)
  unfold Lib.decodeN
  repeat' split
  all_goals(simp only;omega)
end Go.Proofs.Pg
