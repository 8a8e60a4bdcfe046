/- FnComma: a last comma changes nothing; for every world. Part 27. -/
import Derived.Test.YtmhjkkkhdlnngaaGreatDoorZ26
import Derived.Laws.BitsLemmas
set_option linter.all false
set_option maxRecDepth 100000
set_option maxHeartbeats 40000000
namespace Go.Proofs.Pg
open Go.RowKit
attribute [local go_sem] Oper.semAt_some
variable {w w':World}{lo b:Nat}{F:Fd}{tb:List UInt8}
theorem Qhe{cur:Array Value}{off:Nat}{l:List UInt8}(h:off+l.length≤cur.size)(i:Nat) :
  (spl cur off l)[i]? =if i<off then cur[i]? else if i<off+l.length then some (.int .u8 ((l.getD (i-off) 0).toNat:Int))else cur[i]? := by
 unfold spl;have h1:(cur.toList.take off).length=off:=by rw[List.length_take,Array.length_toList];omega
 have h2:(Lib.byteCells l).length=l.length:=Lib.byteCells_length _;rw[List.getElem?_toArray];split
 ·rename_i hi
  rw[List.append_assoc,List.getElem?_append_left (by omega),List.getElem?_take_of_lt hi,Array.getElem?_toList]
 ·rename_i hi
  split
  ·rename_i hj
   rw[List.getElem?_append_left (by rw[List.length_append];omega),List.getElem?_append_right (by omega),h1];unfold Lib.byteCells;rw[List.getElem?_map,List.getD_eq_getElem?_getD];rw[List.getElem?_eq_getElem (show i-off<l.length by omega)];rfl
  ·rename_i hj
   rw[List.getElem?_append_right (by rw[List.length_append];omega),List.length_append,h1,h2,List.getElem?_drop,Array.getElem?_toList]
   congr 1;omega
theorem Qdj{S:Nat→Prop}{w w':World}{base:Nat}{e:TypeId}{size:Nat}{v:Value}{n:Nat}{xs:List Value}(h:w.ownsRow base e size v n xs)(he:Ext S w w')(hs:∀d,S d→d<base∨∀c fr,w.heap[d]?≠some (.cells c e fr)):w'.ownsRow base e size v n xs:=by
 obtain⟨h1,h2⟩:=h;refine⟨h1,?_⟩;rcases h2 with h | ⟨g,cap,cur,a,b,c,d⟩
 ·exact .inl h
 ·exact .inr ⟨g,cap,cur,a,b,he.heap (fun hS=>(hs _ hS).elim (fun k=>by omega) (fun k=>k _ _ c)) c,d⟩
theorem Sn.block(h:Sn w lo b F tb):∃cur:Array Value,w.heap[b]? =some (.cells cur 249 (0,0))∧1025<cur.size∧∀i,i<1033∨1036≤i→cur[i]? =RF F i:=by
 obtain⟨hB,v,lr,⟨cs,hbk,h0,h1,h2,hr⟩,_⟩:=h;refine⟨cs,hbk,?_,hr⟩;have:=(Array.getElem?_eq_some_iff.1 h0).1;omega
theorem Sn.spliced(h:Sn w lo b F tb){cur:Array Value}(hb:w.heap[b]? =some (.cells cur 249 (0,0))){i:Nat}{l:List UInt8}(hb':w'.heap[b]? =some (.cells (spl cur (1+i) l) 249 (0,0)))(hi:i+l.length≤1025)
  {S:Nat→Prop}(he:Ext S w w')(hs:∀d,S d→d<lo∨d=b):Sn w' lo b {F with buf:=fun j=>if i≤j∧j<i+l.length then l.getD (j-i) 0 else F.buf j} tb:=by
 obtain⟨hB,v,lr,⟨cs,hbk,h0,h1,h2,hr⟩,hown,hne⟩:=h;have e:cs=cur:=by rw[hbk]at hb;injection hb with hb;injection hb
 subst e;have hsz:=(Array.getElem?_eq_some_iff.1 h0).1;have hfit:1+i+l.length≤cs.size:=by omega
 have hg:∀x,1025<x→(spl cs (1+i) l)[x]? =cs[x]? := fun x hx=>by rw[Qhe hfit,if_neg (by omega),if_neg (by omega)]
 refine⟨hB,v,lr,⟨_,hb',(hg 1033 (by omega)).trans h0,(hg 1034 (by omega)).trans h1,(hg 1035 (by omega)).trans h2,fun x hx=>?_⟩,Qdj hown he ?_,hne⟩
 ·rw[Qhe hfit]
  by_cases hx0:x<1+i
  ·rw[if_pos hx0,hr x hx]
   unfold RF;by_cases h00:x=0
   ·rw[if_pos h00,if_pos h00]
   ·rw[if_neg h00,if_neg h00,if_pos (by omega),if_pos (by omega)]
    simp only;rw[if_neg (by omega)]
  ·rw[if_neg hx0]
   by_cases hx1:x<1+i+l.length
   ·rw[if_pos hx1]
    unfold RF;rw[if_neg (by omega),if_pos (by omega)];simp only;rw[if_pos (by omega),show x-(1+i)=x-1-i by omega]
   ·rw[if_neg hx1,hr x hx]
    unfold RF;have hn0:¬x=0:=by omega
    rw[if_neg hn0,if_neg hn0];by_cases hx2:x≤1025
    ·rw[if_pos hx2,if_pos hx2]
     simp only;rw[if_neg (by omega)]
    ·rw[if_neg hx2,if_neg hx2]
 ·intro d hd
  rcases hs d hd with h | rfl
  ·exact .inl h
  ·right
   intro c fr hc;rw[hbk]at hc
   injection hc with hc
   injection hc with _ hc _
   exact absurd hc (by decide)
theorem Qhf(h:Sn w lo b F tb)(k n c:Nat)(hk:k+n≤1025)(hlim:tb.length+n≤1000000)(hw:lo≤w.heap.size) :
  Calls Tryz.prog 159 #[.pointer (some ⟨b,1033,none⟩),.slice (some ⟨b,1+k,none⟩) n c] w fun e w'=>e=.returned (.tuple #[.int .i64 n,.nilIface])∧Sn w' lo b F (tb++(List.range n).map (fun j=>F.buf (k+j)))∧Below lo w w'∧Lib.OthersKept 5 (some b) w w':=by
 refine(write_in 249 (RF F) lo b 1033 (Lib.byteCells tb) (Lib.byteCells ((List.range n).map (fun j=>F.buf (k+j)))) (1+k) n c w h hw (Lib.byteCells_one _) (by rw[Lib.byteCells_length];simp) (by omega) ?_ (Lib.byteCells_one _) (by rw[Lib.byteCells_length];omega)).mono ?_
 ·intro j v hj
  unfold Lib.byteCells at hj;rw[List.map_map,List.getElem?_map]at hj;cases hx:(List.range n)[j]? with
  | none=>rw[hx]at hj;cases hj
  | some x =>
   rw[hx]at hj;obtain⟨hlt,he⟩:=List.getElem?_eq_some_iff.1 hx;rw[List.getElem_range]at he;subst he;have hlt':j<n:=by simpa using hlt
   cases hj;unfold RF;rw[if_neg (by omega),if_pos (by omega),show 1+k+j-1=k+j by omega];rfl
 ·rintro e w'⟨rfl,h1,h2,h3⟩
  refine⟨rfl,?_,h2,h3⟩;unfold Sn;rw[show Lib.byteCells (tb++(List.range n).map (fun j=>F.buf (k+j)))=Lib.byteCells tb++Lib.byteCells ((List.range n).map (fun j=>F.buf (k+j)))by unfold Lib.byteCells;rw[List.map_append]];exact h1
theorem QdL{l m:List UInt8}(h0:l≠[])(h:∀n y1 y2 y3,l.length≤n→y1<256→y2<256→y3<256→(1<l.length→y1=(l.getD 1 0).toNat)→(2<l.length→y2=(l.getD 2 0).toNat)→(3<l.length→y3=(l.getD 3 0).toNat) →
  Lib.decodeN n (l.getD 0 0).toNat y1 y2 y3=Lib.decodeN l.length (l.getD 0 0).toNat (l.getD 1 0).toNat (l.getD 2 0).toNat (l.getD 3 0).toNat):dec (l++m)=dec l:=by
 have hl:0<l.length:=List.length_pos_iff.2 h0;have g:∀k,k<l.length→((l++m).getD k 0).toNat=(l.getD k 0).toNat:=fun k hk=>by
  rw[List.getD_eq_getElem?_getD,List.getD_eq_getElem?_getD,List.getElem?_append_left hk]
 unfold dec;rw[if_neg (by rw[List.length_append];omega),if_neg (by omega),g 0 hl];exact h _ _ _ _ (by rw[List.length_append];omega) (UInt8.toNat_lt _) (UInt8.toNat_lt _) (UInt8.toNat_lt _) (g 1) (g 2) (g 3)
theorem dec_long{l m:List UInt8}(h:4≤l.length):dec (l++m)=dec l:=by
 refine QdL (by rintro rfl;simp at h) fun n y1 y2 y3 hn h1 h2 h3 e1 e2 e3=>?_
 refine Qc2 (by omega) hn (UInt8.toNat_lt _) (UInt8.toNat_lt _) (UInt8.toNat_lt _) h1 h2 h3 e1 e2 e3 ?_ (UInt8.toNat_lt _);rcases Lib.firstT_cases (l.getD 0 0).toNat with hX | hX | hX | hX | hX | hX | hX | hX | hX<;>omega
theorem Qe0{l:List UInt8}(h0:l≠[])(h:(l.getD 0 0).toNat<128):dec l=((l.getD 0 0).toNat,1):=by
 have hl:0<l.length:=List.length_pos_iff.2 h0;unfold dec;rw[if_neg (by omega)];unfold Lib.decodeN;rw[if_pos h]
theorem Qco{l:List UInt8}(h0:l≠[]):1≤(dec l).2∧(dec l).2≤l.length∧(dec l).2≤4:=by
 have hl:0<l.length:=List.length_pos_iff.2 h0;unfold dec;rw[if_neg (by omega)];unfold Lib.decodeN
 repeat' split
 all_goals(simp only;omega)
theorem Qed(l:List UInt8):(dec l).1<2097152:=by
 unfold dec;split
 ·decide
 ·have:=UInt8.toNat_lt (l.getD 0 0)
  unfold Lib.decodeN
  repeat' split
  all_goals(simp only;omega)
end Go.Proofs.Pg
namespace Go.Proofs.Pg
open Go.RowKit Go.Lib
attribute [local go_sem] Oper.semAt_some
theorem Qdu(l:List UInt8)(b off cap:Nat)(w:World)(hT:Utf8Tabs 1 2 w)(hc:BytesAt w b off l)(hb:b<w.heap.size)(hlen:l.length≤2000000) :
  Calls Tryz.prog 161 #[.slice (some ⟨b,off,none⟩) l.length cap] w fun e w'=>e=.returned (.tuple #[.int .i32 (dec l).1,.int .i64 (dec l).2])∧Below w.heap.size w w':=by
 have HS:Hid (Calls Tryz.prog 182 #[.slice (some ⟨b,off,none⟩) l.length cap] w fun e w'=>e=.returned (.tuple #[.int .i32 (dec l).1,.int .i64 (dec l).2])∧Below w.heap.size w w'):=Hi (slow182 l b off cap w hT hc hb);by_cases h0:l.length=0
 ·have hz:¬((0:Int)<(l.length:Int)):=by omega
  have hz2:¬0<l.length:=by omega
  rw[h0]at HS ⊢;clear h0 hz hz2 hc hT;go_enter Tryz.func161,Tryz.ntmps161;go_wp2;refine wp_loop_rounds 1 ?_;rw[rounds_succ]
  go_wp2_with(go_at_call 182;refine HS.out.mono ?_;rintro e w' ⟨rfl,hB⟩)
  go_ret2
  exact⟨rfl,hB⟩
 ·have hz:(0:Int)<(l.length:Int):=by omega
  have hz2:0<l.length:=by omega
  have c0:=hc 0 hz2;rw[Nat.add_zero]at c0;have hx:=(l.getD 0 0).toNat_lt;by_cases ha:(l.getD 0 0).toNat<128
  ·have hd:dec l=((l.getD 0 0).toNat,1):=by
    unfold dec;rw[if_neg (by omega)];unfold Lib.decodeN;rw[if_pos ha]
   rw[hd];clear hd HS hc hT;have ha':((l.getD 0 0).toNat:Int)<128:=by omega
   generalize l.getD 0 0=x at *;generalize l.length=n at *;go_enter Tryz.func161,Tryz.ntmps161;go_wp2;refine wp_loop_rounds 1 ?_;rw[rounds_succ];go_wp2
   go_ret2
   exact⟨rfl,Below.refl _ _⟩
  ·have ha':¬((l.getD 0 0).toNat:Int)<128:=by omega
   clear hc hT;generalize (l.getD 0 0)=x at *;generalize hd1:dec l=d at *;clear hd1;generalize l.length=n at *;go_enter Tryz.func161,Tryz.ntmps161;go_wp2;refine wp_loop_rounds 1 ?_;rw[rounds_succ]
   go_wp2_with(go_at_call 182;refine HS.out.mono ?_;rintro e w' ⟨rfl,hB⟩)
   go_ret2
   exact⟨rfl,hB⟩
theorem Qhg(a:Option Addr)(cap:Nat)(w:World):Calls Tryz.prog 158 #[.slice a 0 cap] w fun e w'=>e=.returned (.bool false)∧w'=w:=by
 go_enter Tryz.func158,Tryz.ntmps158;go_wp2;go_ret;exact⟨rfl,rfl⟩
theorem Qhh(l:List UInt8)(b off cap:Nat)(w:World)(hT:Utf8Tabs 1 2 w)(hc:BytesAt w b off l)(hb:b<w.heap.size)(hz:l.length≠0) :
  Calls Tryz.prog 158 #[.slice (some ⟨b,off,none⟩) l.length cap] w fun e w'=>(∃r:Bool,e=.returned (.bool r)∧(r=true→∀n y1 y2 y3,l.length≤n→y1<256→y2<256→y3<256→(1<l.length→y1=(l.getD 1 0).toNat)→(2<l.length→y2=(l.getD 2 0).toNat)→(3<l.length→y3=(l.getD 3 0).toNat) →
  Lib.decodeN n (l.getD 0 0).toNat y1 y2 y3=Lib.decodeN l.length (l.getD 0 0).toNat (l.getD 1 0).toNat (l.getD 2 0).toNat (l.getD 3 0).toNat))∧Below w.heap.size w w':=full158 l b off cap w hT hc hb hz
end Go.Proofs.Pg
namespace Go.Proofs.Pg
open Go.RowKit
attribute [local go_sem] Oper.semAt_some
variable {t:List UInt8}{r:Rdr}{lo b q:Nat}{σ:Sc}{w w':World}{F:Fd}{tb:List UInt8}{off pos en:Nat}
theorem Qbg{S:Nat→Prop}(h:Lib.Utf8Tabs 1 2 w)(he:Ext S w w')(h1:¬S 1)(h2:¬S 2):Lib.Utf8Tabs 1 2 w' :=
 ⟨fun c hc=>he.cell (p:=⟨1,c,none⟩) h1 (h.1 c hc),fun i hi=>⟨he.cell (p:=⟨2,_,none⟩) h2 (h.2 i hi).1,he.cell (p:=⟨2,_,none⟩) h2 (h.2 i hi).2⟩⟩
theorem SWX.move(X:SWX t r lo b σ q w F tb off pos en){σ':Sc}{q':Nat}{F':Fd}{tb':List UInt8}{off' pos' en':Nat}(h:Sn w' lo b F' tb')(he:Ext (fun d=>lo≤d) w w')(wf:SWF t r σ' q' F' tb' off' pos' en')(hen:off'+en'=off+en) :
  SWX t r lo b σ' q' w' F' tb' off' pos' en':=by
 obtain⟨a,ha⟩:=X.eof;have h15:=X.h15;exact⟨h,wf,hen▸X.law.keep _ _ _ X.rd he,Qbg X.tabs he (by omega) (by omega),⟨a,he.cell (p:=⟨0,0,none⟩) (show ¬lo≤0 by omega) ha⟩,Nat.le_trans X.hlo he.size,X.h15,X.hlen,X.law⟩
theorem Fr.of_b{rb b lo:Nat}{x y:World}(h:Ext (fun d=>d=b) x y):Fr rb b lo x y:=h.mono fun d hd=>.inr (.inl hd)
theorem Qc8{b lo:Nat}{x y:World}(h:Ext (fun d=>d=b) x y)(hb:lo≤b):Ext (fun d=>lo≤d) x y:=h.mono fun d hd=>by subst hd;exact hb
theorem SWF.adv(X:SWF t r σ q F tb off pos en)(wd:Nat)(h1:pos+wd≤en)(c l3 l4 te l3' l4':Int)(a3:l3=l3')(a4:l4=l4')(er:Bool)(ev:Value)(e0:er=false→ev=.nilIface)(e1:er=true→∃T p,ev=.iface T p) :
  SWF t r {σ with p:=σ.p+wd,lcl:=wd,col:=c,lll:=l3',ln:=l4',er:=er} wd {F with pos:=(pos:Int)+(wd:Int),lcl:=wd,col:=c,lll:=l3,ln:=l4,er:=ev,te:=te} tb off (pos+wd) en where
 fsrc:=X.fsrc
 fpos:=by simp
 fen:=X.fen
 foff:=X.foff
 le1:=h1
 le2:=X.le2
 hp:=by have:=X.hp;simp only;omega
 len:=X.len
 buf:=X.buf
 sen:=X.sen
 fln:=a4
 fcol:=rfl
 flll:=a3
 flcl:=rfl
 lcle:=by omega
 er0:=e0
 er1:=e1
 fch:=X.fch
 fpf:=X.fpf
 fpo:=X.fpo
 fpl:=X.fpl
 fpc:=X.fpc
 tok:=by
  have h:=X.tok;show tokF t off (pos+wd) wd F.tp tb σ.ts;cases hs:σ.ts with
  | none=>rw[hs]at h;exact h
  | some s =>
   rw[hs]at h;obtain⟨k,a,b,c,d⟩:=h;exact⟨k,a,by omega,c,d⟩
theorem SWF.here(X:SWF t r σ q F tb off pos en)(h:pos<en):F.buf pos=t.getD σ.p 0:=by rw[X.buf pos h,X.hp]
theorem QbA(l:List UInt8)(p k:Nat):(l.drop p).getD k 0=l.getD (p+k) 0:=by
 rw[List.getD_eq_getElem?_getD,List.getD_eq_getElem?_getD,List.getElem?_drop]
theorem dec_big{l:List UInt8}(h0:l≠[])(h:128≤(l.getD 0 0).toNat):128≤(dec l).1:=by
 have hl:0<l.length:=List.length_pos_iff.2 h0;unfold dec;rw[if_neg (by omega)];unfold Lib.decodeN;rw[if_neg (by omega)]
 repeat' split
 all_goals(simp only;omega)
theorem SWX.bytes(X:SWX t r lo b σ q w F tb off pos en):BytesAt w b (1+pos) ((t.drop σ.p).take (en-pos)):=by
 intro j hj;have hp:=X.wf.hp;have h2:=X.wf.le2;have hj':j<en-pos:=by rw[List.length_take]at hj;omega
 rw[show 1+pos+j=1+(pos+j)by omega,X.sn.bufAt (pos+j) (by omega),X.wf.buf (pos+j) (by omega),List.getD_eq_getElem?_getD (l:=List.take _ _),List.getElem?_take_of_lt hj',←List.getD_eq_getElem?_getD (l:=List.drop _ _),QbA,show off+(pos+j)=σ.p+j by omega]
theorem SWX.len(X:SWX t r lo b σ q w F tb off pos en):((t.drop σ.p).take (en-pos)).length=en-pos:=by
 have hp:=X.wf.hp;have h2:=X.wf.len;have h1:=X.wf.le1;rw[List.length_take,List.length_drop];omega
theorem Qhi(X:SWX t r lo b σ σ.lcl w F tb off pos en)(hlt:pos<en)(hx:(t.getD σ.p 0).toNat<128):Calls Tryz.prog 121 #[.pointer (some ⟨b,0,none⟩)] w (Qdd t r lo b σ w):=by
 have hpl:¬t.length≤σ.p:=by have:=X.wf.hp;have:=X.wf.len;omega
 have hne:t.drop σ.p≠[]:=by intro e;have:=congrArg List.length e;rw[List.length_drop]at this;simp at this;omega
 have hd:dec (t.drop σ.p)=((t.getD σ.p 0).toNat,1):=by
  have:=Qe0 hne (by rw[QbA];exact hx);rw[QbA]at this;exact this
 have hw4:=X.wf.le2;have h:=X.sn;have hblt:=h.lt;have c0:=h.c_pos;have c1:=h.c_lcl;have c2:=h.c_col;have c3:=h.c_lll;have c4:=h.c_ln;have c5:=h.bufAt pos (by omega);have f1:=h.free 1026;have f2:=h.free 1032;have f3:=h.free 1030;have f4:=h.free 1031;have f5:=h.free 1029;have hb1:pos<1025:=by omega
 have hb2:(pos:Int)<1025:=by omega
 have hblo:=h.hlo;rw[X.wf.fpos]at c0;rw[X.wf.here hlt]at c5;have hcol:=X.wf.fcol;have hln:=X.wf.fln;have hlll:=X.wf.flll;rw[hcol]at c2;rw[hln]at c4;have er0:=X.wf.er0;have er1:=X.wf.er1;have H:=Hi h;have HX:=Hi X;have HL:=Hi hlt;have HE0:=Hi er0;have HE1:=Hi er1;have HC:Hid (F.col=σ.col∧F.ln=σ.ln∧F.lll=σ.lll):=Hi ⟨hcol,hln,hlll⟩;unfold Qdd;have en1:nxt t σ=if(t.getD σ.p 0).toNat=0 then(0,{σ with p:=σ.p+1,lcl:=1,col:=wrap64 (σ.col+1),er:=true})else if(t.getD σ.p 0).toNat=10 then(10,{σ with p:=σ.p+1,lcl:=1,lll:=wrap64 (σ.col+1),col:=0,ln:=wrap64 (σ.ln+1)})else(((t.getD σ.p 0).toNat:Int),{σ with p:=σ.p+1,lcl:=1,col:=wrap64 (σ.col+1)}):=by
  unfold nxt;rw[if_neg hpl,hd,if_neg (by simp only;omega)]
 clear hd hne hpl h X hlt er0 er1 hcol hln hlll;generalize t.getD σ.p 0=x at *;have hl:x.toNat<256:=x.toNat_lt;have hx':(x.toNat:Int)<128:=by omega
 by_cases h0:x.toNat=0
 ·rw[en1,if_pos h0]
  have HN:=Hi h0;rw[h0]at c5;clear en1 h0 hx hx';go_enter Tryz.func121,Tryz.ntmps121;go_wp2
  go_quiet (fail)
  go_wp2_with fail
  refine(Qec (((H.out.drewN _).s_pos _).s_lcl _ |>.s_col _) _ (by have:=HX.out.hlo;simpa [World.setCell]using this)).mono ?_;rintro e w2⟨rfl,⟨x2,T,p2,hS⟩,hE⟩;have HS:=Hi hS;clear hS;have HE:=Hi hE;clear hE;go_wp2;go_ret;refine⟨rfl,⟨_,_,_,_,_,HX.out.move HS.out ?_ (HX.out.wf.adv 1 (by have:=HL.out;omega) _ F.lll F.ln _ _ _ HC.out.2.2 HC.out.2.1 true (.iface T p2) (fun h=>by cases h) (fun _=>⟨_,_,rfl⟩)) rfl⟩,?_⟩
  ·exact(((((Ext.refl _ _).drewN _).set (.inl hblo) _).set (.inl hblo) _).set (.inl hblo) _).trans (Qc8 HE.out hblo)
  ·exact(((((Fr.refl _ _ _ _).drewN _).set _ _).set _ _).set _ _).trans (Fr.of_b HE.out)
 ·by_cases h1:x.toNat=10
  ·rw[en1,if_neg h0,if_pos h1]
   have HN:=Hi h1;rw[h1]at c5;clear en1 h0 h1 hx hx';go_enter Tryz.func121,Tryz.ntmps121;go_wp2
   go_quiet (fail)
   go_wp2_with fail
   go_ret;refine⟨rfl,⟨_,_,_,_,_,HX.out.move (((((H.out.drewN _).s_pos _).s_lcl _ |>.s_col _).s_ln _).s_lll _ |>.s_col _) ?_ (HX.out.wf.adv 1 (by have:=HL.out;omega) 0 (wrap64 (σ.col+1)) (wrap64 (σ.ln+1)) _ _ _ rfl rfl σ.er F.er HE0.out HE1.out) rfl⟩,?_⟩
   ·exact((((((((Ext.refl _ _).drewN _).set (.inl hblo) _).set (.inl hblo) _).set (.inl hblo) _).set (.inl hblo) _).set (.inl hblo) _).set (.inl hblo) _)
   ·exact((((((((Fr.refl _ _ _ _).drewN _).set _ _).set _ _).set _ _).set _ _).set _ _).set _ _)
  ·rw[en1,if_neg h0,if_neg h1]
   have n0:((x.toNat:Int)==0)=false:=by simpa using h0
   have n1:((x.toNat:Int)==10)=false:=by simp;omega
   clear en1 hx;go_enter Tryz.func121,Tryz.ntmps121;go_wp2
   go_quiet (fail)
   go_wp2_with fail
   go_ret;refine⟨rfl,⟨_,_,_,_,_,HX.out.move (((H.out.drewN _).s_pos _).s_lcl _ |>.s_col _) ?_ (HX.out.wf.adv 1 (by have:=HL.out;omega) _ F.lll F.ln _ _ _ HC.out.2.2 HC.out.2.1 σ.er F.er HE0.out HE1.out) rfl⟩,?_⟩
   ·exact(((((Ext.refl _ _).drewN _).set (.inl hblo) _).set (.inl hblo) _).set (.inl hblo) _)
   ·exact(((((Fr.refl _ _ _ _).drewN _).set _ _).set _ _).set _ _)
def isWs(c:Int):Bool:=c==9||c==10||c==13||c==32
def Qe1(c:Int):Bool:=(decide (65≤c)&&decide (c≤90))||(decide (97≤c)&&decide (c≤122))
def QaZ(c:Int):Bool:=decide (48≤c)&&decide (c≤57)
def isId(c:Int)(first:Bool):Bool:=c==95||Qe1 c||(QaZ c&&!first)
theorem ws_c(c:Int)(w:World):Calls Tryz.prog 122 #[.int .i32 c] w fun e w'=>e=.returned (.bool (isWs c))∧w'=w:=by
 have HI:=Hi (show isWs c=(c==9||c==10||c==13||c==32)from rfl);generalize isWs c=B at *;go_enter Tryz.func122,Tryz.ntmps122;go_wp2
 all_goals(go_ret;exact⟨by rw[HI.out];simp_all,rfl⟩)
theorem num_c(c:Int)(w:World):Calls Tryz.prog 163 #[.int .i32 c] w fun e w'=>e=.returned (.bool (QaZ c))∧w'=w:=by
 have HI:=Hi (show QaZ c=(decide (48≤c)&&decide (c≤57))from rfl);generalize QaZ c=B at *;by_cases h1:48≤c
 all_goals by_cases h2:c≤57
 all_goals
  go_enter Tryz.func163,Tryz.ntmps163;go_wp2
  all_goals(go_ret;exact⟨by rw[HI.out];simp_all,rfl⟩)
theorem Qhj(c:Int)(w:World):Calls Tryz.prog 126 #[.int .i32 c] w fun e w'=>e=.returned (.bool (QaZ c))∧w'=w:=by
 have HI:=Hi (show QaZ c=(decide (48≤c)&&decide (c≤57))from rfl);generalize QaZ c=B at *;by_cases h1:48≤c
 all_goals by_cases h2:c≤57
 all_goals
  go_enter Tryz.func126,Tryz.ntmps126;go_wp2
  all_goals(go_ret;exact⟨by rw[HI.out];simp_all,rfl⟩)
theorem let_c(c:Int)(w:World):Calls Tryz.prog 162 #[.int .i32 c] w fun e w'=>e=.returned (.bool (Qe1 c))∧w'=w:=by
 have HI:=Hi (show Qe1 c=((decide (65≤c)&&decide (c≤90))||(decide (97≤c)&&decide (c≤122)))from rfl);generalize Qe1 c=B at *;by_cases h1:65≤c
 all_goals by_cases h2:c≤90
 all_goals by_cases h3:97≤c
 all_goals by_cases h4:c≤122
 all_goals
  go_enter Tryz.func162,Tryz.ntmps162;go_wp2
  all_goals(go_ret;exact⟨by rw[HI.out];simp_all,rfl⟩)
theorem id_c(c:Int)(f:Bool)(w:World):Calls Tryz.prog 124 #[.int .i32 c,.bool f] w fun e w'=>e=.returned (.bool (isId c f))∧w'=w:=by
 have HI:=Hi (show isId c f=(c==95||Qe1 c||(QaZ c&&!f))from rfl);have HL:Hid (∀w,Calls Tryz.prog 162 #[.int .i32 c] w fun e w'=>e=.returned (.bool (Qe1 c))∧w'=w):=Hi (let_c c);have HN:Hid (∀w,Calls Tryz.prog 163 #[.int .i32 c] w fun e w'=>e=.returned (.bool (QaZ c))∧w'=w):=Hi (num_c c);generalize isId c f=B at *;generalize Qe1 c=L at *;generalize QaZ c=N at *;cases h0:(c==95)
 all_goals cases L
 all_goals cases N
 all_goals cases f
 all_goals
  go_enter Tryz.func124,Tryz.ntmps124
  go_wp2_with(first | (go_at_call 162;refine(HL.out _).mono ?_;rintro e w' ⟨rfl,rfl⟩) | (go_at_call 163;refine(HN.out _).mono ?_;rintro e w' ⟨rfl,rfl⟩))
  go_ret;exact⟨by rw[HI.out];simp_all,rfl⟩
section
variable (t:List UInt8)
abbrev Cs:=Int×Sc
def rem(σ:Sc):Nat:=t.length-σ.p
def mu(s:Cs):Nat:=if s.1=-1 then 0 else rem t s.2+1
def idL:Nat→Cs→Cs
 | 0,s=>s
 | f+1,s=>if isId s.1 false=true then idL f (nxt t s.2)else s
def Qc3(σ:Sc):Cs:=idL t (t.length+2) (nxt t σ)
def numL:Nat→Cs→Cs
 | 0,s=>s
 | f+1,s=>if QaZ s.1=true then numL f (nxt t s.2)else s
def QbN(s:Cs):Cs:=numL t (t.length+2) s
def Qc9(c:Int):Int:=bits .or .i32 32 c
def Qc1(c:Int):Bool:=QaZ c||(decide (97≤Qc9 c)&&decide (Qc9 c≤102))
def err(s:Cs):Cs:=(s.1,{s.2 with er:=true})
def hexL:Nat→Nat→Cs→Nat×Cs
 | 0,n,s=>(n,s)
 | f+1,n,s=>if Qc1 s.1=true then hexL f (n+1) (nxt t s.2)else(n,s)
def Qbj(mn mx:Nat)(s:Cs):Cs:=let p:=hexL t mx 0 s;if p.1<mn then err p.2 else p.2
def QbB(c:Int):Bool:=c==110||c==114||c==116||c==92||c==48||c==39||c==34||c==42
def Qbn(σ:Sc):Cs :=
 let s:=nxt t σ
 if QbB s.1=true then nxt t s.2
 else if s.1=120 then Qbj t 2 2 (nxt t s.2)
 else if s.1=117 then(let u:=nxt t s.2;if u.1=123 then(let v:=Qbj t 1 6 (nxt t u.2);if v.1=125 then nxt t v.2 else err v)else err u)
 else err s
def strL:Nat→Cs→Sc
 | 0,s=>s.2
 | f+1,s=>if s.1=34 then s.2 else if s.1=10∨s.1<0 then(err s).2 else if s.1=92 then strL f (Qbn t s.2)else strL f (nxt t s.2)
def QbC(σ:Sc):Sc:=strL t (t.length+2) (nxt t σ)
def lineL:Nat→Cs→Cs
 | 0,s=>s
 | f+1,s=>if s.1≠10∧0≤s.1 then lineL f (nxt t s.2)else s
def comL:Nat→Cs→Cs
 | 0,s=>s
 | f+1,s=>if s.1<0 then err s else let u:=nxt t s.2;if s.1=42∧u.1=47 then nxt t u.2 else comL f u
def QaT(s:Cs):Cs:=if s.1=47 then lineL t (t.length+2) (nxt t s.2)else comL t (t.length+2) (nxt t s.2)
def Qee(c:Int):Bool:=c==64||c==46||c==44||c==59||c==40||c==41||c==123||c==125||c==91||c==93||c==43||c==45||c==42
def Qbo(c0:Int)(s:Cs):Int×Cs :=
 if Qee c0=true then(5,s)
 else if c0=58 then(5,if s.1=58 then nxt t s.2 else s)
 else if c0=33∨c0=60∨c0=62 then(5,if s.1=61 then nxt t s.2 else s)
 else if c0=61∨c0=124∨c0=38 then(if s.1=c0 then(5,nxt t s.2)else(6,s))
 else(6,s)
def wsL:Nat→Cs→Cs
 | 0,s=>s
 | f+1,s=>if isWs s.1=true then wsL f (nxt t s.2)else s
def QaA(s:Cs):Cs:=wsL t (t.length+2) s
end
theorem nxt_p{t:List UInt8}{σ:Sc}(h:σ.p<t.length):σ.p<(nxt t σ).2.p∧(nxt t σ).2.p≤t.length:=by
 have hne:t.drop σ.p≠[]:=by intro e;have:=congrArg List.length e;rw[List.length_drop]at this;simp at this;omega
 have hw:=Qco hne;rw[List.length_drop]at hw;unfold nxt;rw[if_neg (by omega)]
 repeat' split
 all_goals(simp only;omega)
theorem Qhk{t:List UInt8}{σ:Sc}(h:t.length≤σ.p):(nxt t σ).1=-1∧(nxt t σ).2.p=σ.p:=by
 unfold nxt;rw[if_pos h];exact⟨rfl,rfl⟩
theorem Qbk(t:List UInt8)(σ:Sc):mu t (nxt t σ)≤rem t σ:=by
 unfold mu rem;by_cases h:σ.p<t.length
 ·have:=nxt_p h
  split<;>omega
 ·rw[if_pos (Qhk (by omega)).1];omega
theorem Qbc{t:List UInt8}{c:Int}{σ:Sc}(h:c≠-1):mu t (c,σ)=rem t σ+1:=by unfold mu;rw[if_neg h]
end Go.Proofs.Pg
