/- FnPolicyCut, part 18. -/
import Derived.Test.YtmhjkkkhdlnngaaGreatDoorP10
import Derived.Test.YtmhjkkkhdlnngaaGreatDoorP16
import Derived.Deep.DeepAppendRoom
set_option linter.all false
set_option maxRecDepth 100000
set_option maxHeartbeats 0
namespace Go.Proofs.Pg
open Go.RowKit Go.Proofs.Tryz
theorem Qcq{w:World}{B B':Nat}{e:TypeId}{size:Nat}{v:Value}{n:Nat}{xs:List Value}(h:w.ownsRow B e size v n xs)(hb:B'≤B):w.ownsRow B' e size v n xs:=by
 obtain⟨h1,h2⟩:=h;refine⟨h1,?_⟩;rcases h2 with h2 | ⟨g,cap,cur,a,b,c⟩
 ·exact .inl h2
 ·exact .inr ⟨g,cap,cur,a,by omega,c⟩
theorem Qcf{P:Program}(w:World)(base:Nat)(t ty e:TypeId)(i:TypeInfo)(z:Value)(size bytes:Nat)(ht:P.underlying t=some (.slice e))(hi:P.info? e=some i)(hz:i.zero=some z)
  (hsize:i.size=size)(hby:i.bytes=bytes)(hzs:z.cells.size=size)(hsz:0<size)(v:Value)(n:Nat)(xs:List Value)(hown:w.ownsRow base e size v n xs)
  (a:Addr)(m c:Nat)(news:List Value)(hl:news.length=m*size)(hnews:∀j u,news[j]? =some u→w.cell? (a.add j)=some u)(h1:∀u∈news,u.oneCell'=true)
  (h63:n+m≤maxLen)(hbytes:(n+m)*bytes≤140737488355328)(hbase:base≤w.heap.size) :
  ∃v' w',(Builtin.append_ #[t,t] ty #[v,.slice (some a) m c]).run P w=.ok v' w'∧w'.ownsRow base e size v' (n+m) (xs++news)∧w.grownBy w' v.ownBlock∧(v'=.slice none 0 0↔v=.slice none 0 0∧m=0)∧(v'.ownBlock=v.ownBlock∨∀k,v'.ownBlock=some k→w.heap.size≤k):=by
 obtain⟨v',w',hr,h2,h3,h4⟩:=run_append_own (P:=P) w base t ty e i z size bytes ht hi hz hsize hby hzs hsz v n xs hown a m c news hl hnews h1 h63 hbytes hbase;refine⟨v',w',hr,h2,h3,h4,?_⟩;rcases hown.2 with⟨rfl,rfl⟩ | ⟨g,cap,cur,rfl,hbg,hg,hnc,hcm,hcs,htake⟩
 ·have hx:xs=[]:=List.eq_nil_of_length_eq_zero (by simpa using hown.1)
  subst hx;obtain⟨v2,w2,hr2,k2,k3,k4⟩:=run_append_own (P:=P) w w.heap.size t ty e i z size bytes ht hi hz hsize hby hzs hsz (.slice none 0 0) 0 [] ⟨by simp,.inl ⟨rfl,rfl⟩⟩ a m c news hl hnews h1 h63 hbytes (Xb _);rw[hr]at hr2;cases hr2;rcases k2.2 with⟨rfl,_⟩ | ⟨g,cap,cur,rfl,hbg,_⟩
  ·exact .inl rfl
  ·exact .inr (fun k hk=>by cases hk;exact hbg)
 ·by_cases hroom:n+m≤cap
  ·obtain⟨w2,hr2,_⟩:=run_append_own_spare (P:=P) w base t ty e i size ht hi hsize g n cap xs hown a m c news hl hnews h1 hroom
   rw[hr]at hr2;cases hr2;exact .inl rfl
  ·subst hsize
   subst hby
   have holds:∀j u,xs[j]? =some u→w.cell? ((⟨g,0,none⟩:Addr).add j)=some u:=hown.cells (g:=g) rfl
   have hr2:=run_append_grow (P:=P) w t ty e i z ht hi hz ⟨g,0,none⟩ n cap xs hown.1 holds a m c news hl hnews (by omega) (by simp only[maxLen]at h63;omega) (growslice_fits (by omega) hbytes);rw[hr]at hr2;cases hr2;exact .inr (fun k hk=>by cases hk;exact Xb _)
theorem appF{P:Program}{ops:Array Oper}{rest:List Oper}{o:Oper}{a:Act}{w:World}{Q:Exit→Act→World→Prop}{T E:TypeId}{z:Value}{sz by':Nat}(hT:SlT P T E z sz by')
  (hgd:o.guard=none)(s xo:Operand)(ho:o.op=.call {callee:=.builtin .append,args:=#[s,xo],argTypes:=#[T,T]})(base:Nat)(v:Value)(n:Nat)(xs:List Value)(hs:a.eval s=v)(hown:w.ownsRow base E sz v n xs)
  (blk:Nat)(news:List Value)(hl:news.length=1*sz)(hx:a.eval xo=.slice (some ⟨blk,0,none⟩) 1 1)(hc:∀j u,news[j]? =some u→w.cell? ⟨blk,j,none⟩=some u)(h1:∀v∈news,v.oneCell'=true)(hm:n+1≤maxLen)(hn:(n+1)*by'≤140737488355328)(hbase:base≤w.heap.size)
  (h:∀v' w',w'.ownsRow base E sz v' (n+1) (xs++news)→w.grownBy w' v.ownBlock→(v'.ownBlock=v.ownBlock∨∀k,v'.ownBlock=some k→w.heap.size≤k)→wpList P ops Q rest (a.put o.dst v') w'):wpList P ops Q (o::rest) a w:=by
 obtain⟨i0,hi,hz0,hz1,hz2⟩:=hT.i;obtain⟨v',w',hr,h2,h3,_,h5⟩:=Qcf (P:=P) w base T o.type E i0 z sz by' hT.hu hi hz0 hz1 hz2 hT.zs hT.pos v n xs hown ⟨blk,0,none⟩ 1 1 news hl (by
  intro j u hj;have:=hc j u hj;by_cases h0:j=0
  ·subst h0;simpa [Addr.add]using this
  ·simpa [Addr.add,h0]using this) h1 hm hn hbase
 refine wpList_plain hgd fun _ hK=>?_
 unfold Oper.wp execOp;simp only[ho,resolve,invoke,builtin,Sem.run_bind,Sem.run_pure,Result.andThen_ok,List.map_toArray,List.map_cons,List.map_nil,hs,hx,hr];exact hK _ _ (h v' w' h2 h3 h5)
structure PV where
 kind:Int
 n:Int
 s:ByteArray
 t:ByteArray
abbrev pv0:PV:=⟨0,0,⟨#[]⟩,⟨#[]⟩⟩
inductive PEx where
 | mk (op:Int)(s:ByteArray)(v:PV)(keys pieces:List ByteArray)(l:List PEx)
def RwU(w:World)(U:Nat→Prop)(tag z:Nat)(p:Option Addr)(n:Nat)(cs:List Value):Prop :=
 cs.length=n*z∧(n=0∨∃b off c fr,p=some ⟨b,off,none⟩∧U b∧w.heap[b]? =some (.cells c tag fr)∧∀j,j<n*z→c[off+j]? =cs[j]?)
theorem RwU.nil{w:World}{U:Nat→Prop}{tag z:Nat}{p:Option Addr}:RwU w U tag z p 0 []:=⟨by simp,.inl rfl⟩
theorem RwU.ext{w w':World}{U U' S:Nat→Prop}{tag z:Nat}{p:Option Addr}{n:Nat}{cs:List Value}(h:RwU w U tag z p n cs)(he:Ext S w w')(hs:∀d,U d→d<w.heap.size→¬S d∧U' d):RwU w' U' tag z p n cs:=by
 obtain⟨h1,h2 | ⟨b,off,c,fr,a1,a2,a3,a4⟩⟩:=h
 ·exact⟨h1,.inl h2⟩
 ·exact⟨h1,.inr ⟨b,off,c,fr,a1,(hs b a2 (Qad a3)).2,he.heap (hs b a2 (Qad a3)).1 a3,a4⟩⟩
inductive PxIs(w:World)(U:Nat→Prop):List Value→PEx→Prop
 | mk (op:Int)(s:ByteArray)(v:PV)(keys pieces:List ByteArray)(l:List PEx)(pk pp pl:Option Addr)(ck cp cl:Nat)(cs:List Value)
  (hk:RwU w U 9 1 pk keys.length (keys.map .string))(hp:RwU w U 9 1 pp pieces.length (pieces.map .string))(hl:RwU w U 33 11 pl l.length cs)
  (h:∀i a,l[i]? =some a→PxIs w U ((cs.drop (i*11)).take 11) a) :
  PxIs w U [.int .i64 op,.string s,.int .i64 v.kind,.int .i64 v.n,.string v.s,.string v.t,.slice none 0 0,.slice none 0 0,.slice pk keys.length ck,.slice pp pieces.length cp,.slice pl l.length cl] (.mk op s v keys pieces l)
theorem PxIs.ext{w w':World}{U U' S:Nat→Prop}{cs:List Value}{x:PEx}(h:PxIs w U cs x)(he:Ext S w w')(hs:∀d,U d→d<w.heap.size→¬S d∧U' d):PxIs w' U' cs x:=by
 induction h with
 | mk op s v keys pieces l pk pp pl ck cp cl cs hk hp hl _ ih=>exact .mk op s v keys pieces l pk pp pl ck cp cl cs (hk.ext he hs) (hp.ext he hs) (hl.ext he hs) ih
theorem PxIs.len{w:World}{U:Nat→Prop}{cs:List Value}{x:PEx}(h:PxIs w U cs x):cs.length=11:=by cases h;rfl
theorem PxIs.after{w w':World}{U:Nat→Prop}{cs:List Value}{x:PEx}(h:PxIs w U cs x)(hb:Below w.heap.size w w'):PxIs w' U cs x:=h.ext (S:=fun _=>False) (.below hb) (fun d hd _=>⟨fun h=>h,hd⟩)
def PxsIs(w:World)(U:Nat→Prop)(cs:List Value)(l:List PEx):Prop:=cs.length=l.length*11∧∀i a,l[i]? =some a→PxIs w U ((cs.drop (i*11)).take 11) a
theorem PxsIs.ext{w w':World}{U U' S:Nat→Prop}{cs:List Value}{l:List PEx}(h:PxsIs w U cs l)(he:Ext S w w')(hs:∀d,U d→d<w.heap.size→¬S d∧U' d):PxsIs w' U' cs l:=⟨h.1,fun i a hi=>(h.2 i a hi).ext he hs⟩
theorem PxsIs.after{w w':World}{U:Nat→Prop}{cs:List Value}{l:List PEx}(h:PxsIs w U cs l)(hb:Below w.heap.size w w'):PxsIs w' U cs l:=⟨h.1,fun i a hi=>(h.2 i a hi).after hb⟩
theorem PxsIs.nil{w:World}{U:Nat→Prop}:PxsIs w U [] []:=⟨rfl,fun i a h=>by simp at h⟩
theorem PxsIs.snoc{w:World}{U:Nat→Prop}{cs ds:List Value}{l:List PEx}{x:PEx}(h:PxsIs w U cs l)(hx:PxIs w U ds x):PxsIs w U (cs++ds) (l++[x]):=by
 have h11:=hx.len;refine⟨by simp[h.1,h11,Nat.add_mul],fun i a hi=>?_⟩;have hc:=h.1;by_cases hl:i<l.length
 ·rw[List.getElem?_append_left hl]at hi
  have:=h.2 i a hi
  rwa [List.drop_append_of_le_length (by omega),List.take_append_of_le_length (by rw[List.length_drop];omega)]
 ·rw[List.getElem?_append_right (by omega)]at hi
  have h0:i=l.length:=by
   have:=(List.getElem?_eq_some_iff.1 hi).1;simp at this;omega
  subst h0;simp at hi;subst hi;rw[List.drop_append,List.drop_eq_nil_of_le (by omega),hc,Nat.sub_self,List.drop_zero,List.nil_append,List.take_of_length_le (by omega)];exact hx
def PxP(w:World)(x:PEx)(e:Ending)(w':World):Prop:=Below w.heap.size w w'∧∃cs,PxIs w' (w.heap.size≤·) cs x∧e=.returned (.tuple #[.agg cs.toArray,.bool true])
theorem sl31:SlT prog 31 33 (.agg #[.int .i64 0,.string ⟨#[]⟩,.int .i64 0,.int .i64 0,.string ⟨#[]⟩,.string ⟨#[]⟩,.slice none 0 0,.slice none 0 0,.slice none 0 0,.slice none 0 0,.slice none 0 0]) 11 192:=⟨by kernel_rfl,⟨Tryz.t33,by kernel_rfl,by kernel_rfl,by kernel_rfl,by kernel_rfl⟩,rfl,by decide⟩
theorem sl27:SlT prog 27 9 (.string ⟨#[]⟩) 1 16:=⟨by kernel_rfl,⟨Tryz.t9,by kernel_rfl,by kernel_rfl,by kernel_rfl,by kernel_rfl⟩,rfl,by decide⟩
theorem RwU.own{w:World}{B:Nat}{e:TypeId}{z:Nat}{v:Value}{n:Nat}{xs:List Value}(h:w.ownsRow B e z v n xs):∃p c,v=.slice p n c∧RwU w (B≤·) e z p n xs:=by
 obtain⟨h1,h2⟩:=h;rcases h2 with⟨rfl,rfl⟩ | ⟨g,cap,cur,rfl,hB,hg,_,_,_,ht⟩
 ·exact⟨none,0,rfl,h1,.inl rfl⟩
 ·refine⟨_,cap,rfl,h1,.inr ⟨g,0,cur,_,rfl,hB,hg,fun j hj=>?_⟩⟩
  rw[←ht,List.getElem?_take_of_lt hj];simp
end Go.Proofs.Pg
namespace Go.Proofs.Pg
open Go.RowKit Go.Proofs.Tryz
attribute [local go_sem] Oper.semAt_some
def PxC(x:Ex)(y:PEx):Prop:=∀w lo v,NodeIs w lo v x→Calls prog 51 #[v] w (PxP w y)
abbrev xCells(op:Int)(s:ByteArray)(kd nn:Int)(vs vt:ByteArray)(k p l:Value):Array Value:=#[.int .i64 op,.string s,.int .i64 kd,.int .i64 nn,.string vs,.string vt,.slice none 0 0,.slice none 0 0,k,p,l]
abbrev xZero:Array Value:=xCells 0 ⟨#[]⟩ 0 0 ⟨#[]⟩ ⟨#[]⟩ (.slice none 0 0) (.slice none 0 0) (.slice none 0 0)
def MnRel(w0:World)(op:Int)(s:ByteArray)(ys:List PEx)(sl:Value)(wr:World):Prop :=
 ∃i v cs,sl=.int .i64 ((i:Nat):Int)∧i≤ys.length∧wr.heap[w0.heap.size]? =some (.cells xZero 33 (0,0))∧wr.heap[w0.heap.size+1]? =some (.cells (xCells op s 0 0 ⟨#[]⟩ ⟨#[]⟩ (.slice none 0 0) (.slice none 0 0) v) 33 (0,0)) ∧
  wr.ownsRow (w0.heap.size+2) 33 11 v i cs∧PxsIs wr (fun d=>w0.heap.size+2≤d∧v.ownBlock≠some d) cs (ys.take i)∧Below w0.heap.size w0 wr∧w0.heap.size+2≤wr.heap.size
theorem load11{P:Program}{t:TypeId}(b o:Nat)(w:World)(v0 v1 v2 v3 v4 v5 v6 v7 v8 v9 v10:Value)(ha:(isAgg t).run P w=.ok true w)(hs:(sizeOf t).run P w=.ok 11 w)(h0:w.cell? ⟨b,o,none⟩=some v0)(h1:w.cell? ⟨b,o+1,none⟩=some v1)
  (h2:w.cell? ⟨b,o+2,none⟩=some v2)(h3:w.cell? ⟨b,o+3,none⟩=some v3)(h4:w.cell? ⟨b,o+4,none⟩=some v4)(h5:w.cell? ⟨b,o+5,none⟩=some v5)(h6:w.cell? ⟨b,o+6,none⟩=some v6)(h7:w.cell? ⟨b,o+7,none⟩=some v7)(h8:w.cell? ⟨b,o+8,none⟩=some v8)(h9:w.cell? ⟨b,o+9,none⟩=some v9)(h10:w.cell? ⟨b,o+10,none⟩=some v10) :
  (loadVar t ⟨b,o,none⟩).run P w=.ok (.agg #[v0,v1,v2,v3,v4,v5,v6,v7,v8,v9,v10]) w:=by
 simp only[loadVar,Sem.run_bind,ha,hs,Result.andThen_ok,Sem.run_pure,if_true];simp[loadCells,go_sem,h0,h1,h2,h3,h4,h5,h6,h7,h8,h9,h10]
theorem set11{w:World}{b:Nat}{c:Array Value}{e:TypeId}(h:w.heap[b]? =some (.cells c e (0,0)))(hc:c.size=11)(v0 v1 v2 v3 v4 v5 v6 v7 v8 v9 v10:Value) :
  (((((((((((w.setCell ⟨b,0,none⟩ v0).setCell ⟨b,1,none⟩ v1).setCell ⟨b,2,none⟩ v2).setCell ⟨b,3,none⟩ v3).setCell ⟨b,4,none⟩ v4).setCell ⟨b,5,none⟩ v5).setCell ⟨b,6,none⟩ v6).setCell ⟨b,7,none⟩ v7).setCell ⟨b,8,none⟩ v8).setCell ⟨b,9,none⟩ v9).setCell ⟨b,10,none⟩ v10).heap[b]? =some (.cells #[v0,v1,v2,v3,v4,v5,v6,v7,v8,v9,v10] e (0,0)):=by
 obtain⟨l⟩:=c
 match l,hc with
 | [a0,a1,a2,a3,a4,a5,a6,a7,a8,a9,a10],_ =>
  have s0:(w.setCell ⟨b,0,none⟩ v0).heap[b]? =some (.cells #[v0,a1,a2,a3,a4,a5,a6,a7,a8,a9,a10] e (0,0)):=Qac (o:=0) h v0;have s1:((w.setCell ⟨b,0,none⟩ v0).setCell ⟨b,1,none⟩ v1).heap[b]? =some (.cells #[v0,v1,a2,a3,a4,a5,a6,a7,a8,a9,a10] e (0,0)):=Qac (o:=1) s0 v1;have s2:(((w.setCell ⟨b,0,none⟩ v0).setCell ⟨b,1,none⟩ v1).setCell ⟨b,2,none⟩ v2).heap[b]? =some (.cells #[v0,v1,v2,a3,a4,a5,a6,a7,a8,a9,a10] e (0,0)):=Qac (o:=2) s1 v2
  have s3:((((w.setCell ⟨b,0,none⟩ v0).setCell ⟨b,1,none⟩ v1).setCell ⟨b,2,none⟩ v2).setCell ⟨b,3,none⟩ v3).heap[b]? =some (.cells #[v0,v1,v2,v3,a4,a5,a6,a7,a8,a9,a10] e (0,0)):=Qac (o:=3) s2 v3;have s4:(((((w.setCell ⟨b,0,none⟩ v0).setCell ⟨b,1,none⟩ v1).setCell ⟨b,2,none⟩ v2).setCell ⟨b,3,none⟩ v3).setCell ⟨b,4,none⟩ v4).heap[b]? =some (.cells #[v0,v1,v2,v3,v4,a5,a6,a7,a8,a9,a10] e (0,0)):=Qac (o:=4) s3 v4
  have s5:((((((w.setCell ⟨b,0,none⟩ v0).setCell ⟨b,1,none⟩ v1).setCell ⟨b,2,none⟩ v2).setCell ⟨b,3,none⟩ v3).setCell ⟨b,4,none⟩ v4).setCell ⟨b,5,none⟩ v5).heap[b]? =some (.cells #[v0,v1,v2,v3,v4,v5,a6,a7,a8,a9,a10] e (0,0)):=Qac (o:=5) s4 v5;have s6:(((((((w.setCell ⟨b,0,none⟩ v0).setCell ⟨b,1,none⟩ v1).setCell ⟨b,2,none⟩ v2).setCell ⟨b,3,none⟩ v3).setCell ⟨b,4,none⟩ v4).setCell ⟨b,5,none⟩ v5).setCell ⟨b,6,none⟩ v6).heap[b]? =some (.cells #[v0,v1,v2,v3,v4,v5,v6,a7,a8,a9,a10] e (0,0)):=Qac (o:=6) s5 v6
  have s7:((((((((w.setCell ⟨b,0,none⟩ v0).setCell ⟨b,1,none⟩ v1).setCell ⟨b,2,none⟩ v2).setCell ⟨b,3,none⟩ v3).setCell ⟨b,4,none⟩ v4).setCell ⟨b,5,none⟩ v5).setCell ⟨b,6,none⟩ v6).setCell ⟨b,7,none⟩ v7).heap[b]? =some (.cells #[v0,v1,v2,v3,v4,v5,v6,v7,a8,a9,a10] e (0,0)):=Qac (o:=7) s6 v7;have s8:(((((((((w.setCell ⟨b,0,none⟩ v0).setCell ⟨b,1,none⟩ v1).setCell ⟨b,2,none⟩ v2).setCell ⟨b,3,none⟩ v3).setCell ⟨b,4,none⟩ v4).setCell ⟨b,5,none⟩ v5).setCell ⟨b,6,none⟩ v6).setCell ⟨b,7,none⟩ v7).setCell ⟨b,8,none⟩ v8).heap[b]? =some (.cells #[v0,v1,v2,v3,v4,v5,v6,v7,v8,a9,a10] e (0,0)):=Qac (o:=8) s7 v8
  have s9:((((((((((w.setCell ⟨b,0,none⟩ v0).setCell ⟨b,1,none⟩ v1).setCell ⟨b,2,none⟩ v2).setCell ⟨b,3,none⟩ v3).setCell ⟨b,4,none⟩ v4).setCell ⟨b,5,none⟩ v5).setCell ⟨b,6,none⟩ v6).setCell ⟨b,7,none⟩ v7).setCell ⟨b,8,none⟩ v8).setCell ⟨b,9,none⟩ v9).heap[b]? =some (.cells #[v0,v1,v2,v3,v4,v5,v6,v7,v8,v9,a10] e (0,0)):=Qac (o:=9) s8 v9;have s10:(((((((((((w.setCell ⟨b,0,none⟩ v0).setCell ⟨b,1,none⟩ v1).setCell ⟨b,2,none⟩ v2).setCell ⟨b,3,none⟩ v3).setCell ⟨b,4,none⟩ v4).setCell ⟨b,5,none⟩ v5).setCell ⟨b,6,none⟩ v6).setCell ⟨b,7,none⟩ v7).setCell ⟨b,8,none⟩ v8).setCell ⟨b,9,none⟩ v9).setCell ⟨b,10,none⟩ v10).heap[b]? =some (.cells #[v0,v1,v2,v3,v4,v5,v6,v7,v8,v9,v10] e (0,0)):=Qac (o:=10) s9 v10
  exact s10
theorem ext11{w:World}{b:Nat}(v0 v1 v2 v3 v4 v5 v6 v7 v8 v9 v10:Value):Ext (·=b) w (((((((((((w.setCell ⟨b,0,none⟩ v0).setCell ⟨b,1,none⟩ v1).setCell ⟨b,2,none⟩ v2).setCell ⟨b,3,none⟩ v3).setCell ⟨b,4,none⟩ v4).setCell ⟨b,5,none⟩ v5).setCell ⟨b,6,none⟩ v6).setCell ⟨b,7,none⟩ v7).setCell ⟨b,8,none⟩ v8).setCell ⟨b,9,none⟩ v9).setCell ⟨b,10,none⟩ v10) :=
 (((((((((((Ext.refl (·=b) w).set (p:=⟨b,0,none⟩) (.inl rfl) v0).set (p:=⟨b,1,none⟩) (.inl rfl) v1).set (p:=⟨b,2,none⟩) (.inl rfl) v2).set (p:=⟨b,3,none⟩) (.inl rfl) v3).set (p:=⟨b,4,none⟩) (.inl rfl) v4).set (p:=⟨b,5,none⟩) (.inl rfl) v5).set (p:=⟨b,6,none⟩) (.inl rfl) v6).set (p:=⟨b,7,none⟩) (.inl rfl) v7).set (p:=⟨b,8,none⟩) (.inl rfl) v8).set (p:=⟨b,9,none⟩) (.inl rfl) v9).set (p:=⟨b,10,none⟩) (.inl rfl) v10
theorem Qch{w:World}{b:Nat}{c:Array Value}{e:TypeId}(h:w.heap[b]? =some (.cells c e (0,0)))(hc:c.size=11)(v0 v1 v2 v3 v4 v5 v6 v7 v8 v9 v10:Value) :
  ∃w',(((((((((((w.setCell ⟨b,0,none⟩ v0).setCell ⟨b,1,none⟩ v1).setCell ⟨b,2,none⟩ v2).setCell ⟨b,3,none⟩ v3).setCell ⟨b,4,none⟩ v4).setCell ⟨b,5,none⟩ v5).setCell ⟨b,6,none⟩ v6).setCell ⟨b,7,none⟩ v7).setCell ⟨b,8,none⟩ v8).setCell ⟨b,9,none⟩ v9).setCell ⟨b,10,none⟩ v10)=w'∧w'.heap[b]? =some (.cells #[v0,v1,v2,v3,v4,v5,v6,v7,v8,v9,v10] e (0,0))∧Ext (·=b) w w':=⟨_,rfl,set11 h hc v0 v1 v2 v3 v4 v5 v6 v7 v8 v9 v10,ext11 v0 v1 v2 v3 v4 v5 v6 v7 v8 v9 v10⟩
theorem Qbp{W:World}{fn:Func}{R:Nat}{cs:Array Value}{ok:Value}{Q:Ending→World→Prop}(a:Act)(s s2:Nat)(hf:fn.results=#[.cell s 33,.tmp s2])(ha:a.tmps.getD s undef=.pointer (some ⟨R,0,none⟩))(he:a.tmps.getD s2 undef=ok)(had:a.defers=[])
  (r:W.heap[R]? =some (.cells cs 33 (0,0)))(hz:cs.size=11)(h:Q (.returned (.tuple #[.agg cs,ok])) W):bodyPost prog fn Q Exit.ret a W:=by
 obtain⟨v0,v1,v2,v3,v4,v5,v6,v7,v8,v9,v10,rfl⟩:∃v0 v1 v2 v3 v4 v5 v6 v7 v8 v9 v10,cs=#[v0,v1,v2,v3,v4,v5,v6,v7,v8,v9,v10]:=by
  obtain⟨l⟩:=cs
  match l,hz with
  | [v0,v1,v2,v3,v4,v5,v6,v7,v8,v9,v10],_=>exact⟨v0,v1,v2,v3,v4,v5,v6,v7,v8,v9,v10,rfl⟩
 refine bodyPost_ret (QaH (a:=s) (t:=33) hf _ ⟨R,0,none⟩ ha _ _ (load11 _ _ _ _ _ _ _ _ _ _ _ _ _ _ (by kernel_rfl) (by kernel_rfl) (Qaa (o:=0) r rfl) (Qaa (o:=1) r rfl) (Qaa (o:=2) r rfl) (Qaa (o:=3) r rfl) (Qaa (o:=4) r rfl) (Qaa (o:=5) r rfl) (Qaa (o:=6) r rfl) (Qaa (o:=7) r rfl) (Qaa (o:=8) r rfl) (Qaa (o:=9) r rfl) (Qaa (o:=10) r rfl))) had ?_;rw[he];exact h
theorem Qh4{w:World}{U:Nat→Prop}{cs:List Value}{x:PEx}(h:PxIs w U cs x):∀v∈cs,v.oneCell'=true:=by
 cases h;intro v hv;simp only[List.mem_cons,List.not_mem_nil,or_false]at hv;rcases hv with rfl | rfl | rfl | rfl | rfl | rfl | rfl | rfl | rfl | rfl | rfl<;>rfl
theorem Qf8{w:World}{base:Nat}{e:TypeId}{size:Nat}{v:Value}{n:Nat}{xs:List Value}(h:w.ownsRow base e size v n xs):∀k,v.ownBlock=some k→k<w.heap.size:=fun k hk=>by
 obtain⟨_,c,hc⟩:=Qa5 h hk;exact Qad hc
theorem Qe6{l:List Ex}{ys:List PEx}(hlen:ys.length=l.length)(hC:∀(i:Nat)(a:Ex)(y:PEx),l[i]? =some a→ys[i]? =some y→PxC a y)(w:World)(op:Int)(s:ByteArray)(lo:Nat)(p:Option Addr)(c:Nat)(vs:Nat→Value)(hr:RowAt w lo 136 p l.length vs)(hn:∀(i:Nat)(a:Ex),l[i]? =some a→NodeIs w lo (vs i) a)(hm:l.length≤1000000) :
  Calls prog 65 #[.int .i64 op,.string s,.slice p l.length c] w (PxP w (.mk op s pv0 [] [] ys)):=by
 have HC:=Hi hC;clear hC;have HN:=Hi hn;clear hn;have HRW:=Hi hr;clear hr;have HLEN:=Hi hlen;clear hlen;go_enter func65,ntmps65
 go_upto_region 3 with(fail)
 obtain⟨w1,hw⟩:∃w1,((w.alloc (.cells xZero 33)).alloc (.cells (xCells op s 0 0 ⟨#[]⟩ ⟨#[]⟩ (.slice none 0 0) (.slice none 0 0) (.slice none 0 0)) 33))=w1:=⟨_,rfl⟩
 rw[hw];have hB1:Below w.heap.size w w1:=by rw[←hw];exact(Qab w _).alloc (by simp) _
 have hr1:w1.heap[w.heap.size]? =some (.cells xZero 33 (0,0)):=by rw[←hw];exact Qaf (Qah (by simp) _) _
 have hx1:w1.heap[w.heap.size+1]? =some (.cells (xCells op s 0 0 ⟨#[]⟩ ⟨#[]⟩ (.slice none 0 0) (.slice none 0 0) (.slice none 0 0)) 33 (0,0)):=by rw[←hw];exact Qah (by simp) _
 have hs1:w.heap.size+2≤w1.heap.size:=by rw[←hw];simp
 clear hw;have HQ:Hid (MnRel w op s ys (.int .i64 0) w1):=Hi ⟨0,.slice none 0 0,[],rfl,Nat.zero_le _,hr1,hx1,⟨rfl,.inl ⟨rfl,rfl⟩⟩,.nil,hB1,hs1⟩;clear hB1 hr1 hx1 hs1
 go_loopw [18] (fun sl wr=>MnRel w op s ys sl wr) (fun sl _=>l.length-(intOf sl).toNat)
 case atStart=>exact HQ.out
 case round =>
  clear HQ;obtain⟨i,v,cs,rfl,hi,hrb,hxb,hO,hP,hB,hs⟩:=hrel;have HP:=Hi hP;clear hP;have HO:=Hi hO;clear hO;have HB:=Hi hB;clear hB;have HRB:=Hi hrb;clear hrb;have hil:i≤l.length:=by have:=HLEN.out;omega
  clear hi;by_cases hlt:i<l.length
  ·obtain⟨a,ha⟩:∃a,l[i]? =some a:=⟨l[i],by simp[hlt]⟩
   obtain⟨y,hy⟩:∃y,ys[i]? =some y:=⟨ys[i]'(by have:=HLEN.out;omega),by simp[hlt,HLEN.out]⟩
   have hnd:=HN.out i a ha;obtain⟨T,x,hvi⟩:=hnd.iface;rw[hvi]at hnd;obtain⟨b,off,cc,fr,rfl,hlb,hcb,hcc⟩:∃b off cc fr,p=some ⟨b,off,none⟩∧lo≤b∧w.heap[b]? =some (.cells cc 136 fr)∧∀i,i<l.length→cc[off+i]? =some (vs i):=HRW.out.resolve_left (by omega)
   have hci:=Qaa ((HB.out.block b (Qad hcb)).trans hcb) ((hcc i hlt).trans (congrArg some hvi));have HA:=Hi (Xc ha hy);clear ha hy hcb hcc hvi
   go_wp2_with fail
   refine(HC.out i a y HA.out.1 HA.out.2 _ _ _ (hnd.keep (Ext.below (S:=fun _=>False) HB.out) (fun _ h=>h.elim))).mono ?_;rintro e w2⟨B2,ds,hpx,rfl⟩;cases hpx with
   | mk op' s' v' keys' pieces' l' pk pp pl ck cp cl cs' hk hp hl hch =>
   have hpx:PxIs w2 (wr.heap.size≤·) _ (.mk op' s' v' keys' pieces' l'):=.mk op' s' v' keys' pieces' l' pk pp pl ck cp cl cs' hk hp hl hch;obtain⟨kd,nn,vs',vt⟩:=v';simp only at hpx;have HPX:=Hi hpx;clear hpx hk hp hl hch
   go_upto_region 8 with(fail)
   obtain⟨w3,hw⟩:∃w3,w2.alloc (.cells (xCells op' s' kd nn vs' vt (.slice pk keys'.length ck) (.slice pp pieces'.length cp) (.slice pl l'.length cl)) 33)=w3:=⟨_,rfl⟩
   rw[hw];have h3:w3.heap[w2.heap.size]? =some (.cells (xCells op' s' kd nn vs' vt (.slice pk keys'.length ck) (.slice pp pieces'.length cp) (.slice pl l'.length cl)) 33 (0,0)):=by rw[←hw];exact Xa _ _
   have B3:Below wr.heap.size wr w3:=by rw[←hw];exact B2.alloc B2.size _
   have hz3:w2.heap.size+1=w3.heap.size:=by rw[←hw];simp
   have hz2:=B2.size;have HPX3:=Hi (HPX.out.after (show Below w2.heap.size w2 w3 by rw[←hw];exact Qab _ _));clear hw;have hx3:=Bk B3 hxb;have c10:=Qaa (o:=10) hx3 rfl;obtain⟨k0,k1,k2,k3,k4,k5,k6,k7,k8,k9,k10⟩:=Cl11 h3 rfl rfl rfl rfl rfl rfl rfl rfl rfl rfl rfl;have B4:Below wr.heap.size wr (w3.alloc (.cells (xCells op' s' kd nn vs' vt (.slice pk keys'.length ck) (.slice pp pieces'.length cp) (.slice pl l'.length cl)) 33)):=B3.alloc (by omega) _
   have hOa:=Qaj (S:=fun _=>False) HO.out (.below B4) (fun _ h=>h.elim);have hPa:=HP.out.after B4;have hpxa:=HPX3.out.after (Qab w3 (.cells (xCells op' s' kd nn vs' vt (.slice pk keys'.length ck) (.slice pp pieces'.length cp) (.slice pl l'.length cl)) 33));have hnew:=Xa w3 (.cells (xCells op' s' kd nn vs' vt (.slice pk keys'.length ck) (.slice pp pieces'.length cp) (.slice pl l'.length cl)) 33);have hxa:=Bk B4 hxb
   have hra:=(B4.block _ (Qad HRB.out)).trans HRB.out;have hBa:=HB.out.trans (B4.mono HB.out.size);have hLT:=Qf8 HO.out;have HAll:=Hi (Xc hOa (Xc hPa (Xc hpxa (Xc hnew (Xc hxa (Xc hra (Xc hBa hLT)))))));have hLB:=HB.out.size;clear hOa hPa hpxa hnew hxa hra hBa hLT hx3 h3 B3 B4 hxb
   go_wp2_with(at_builtin;refine appF sl31 rfl _ _ rfl (w.heap.size+2) _ _ _ rfl HAll.out.1 _ [.int .i64 op',.string s',.int .i64 kd,.int .i64 nn,.string vs',.string vt,.slice none 0 0,.slice none 0 0,.slice pk keys'.length ck,.slice pp pieces'.length cp,.slice pl l'.length cl] rfl rfl (fun j u hj=>Qaa HAll.out.2.2.2.1 (by simpa using hj)) (Qh4 HPX.out) (by unfold maxLen;omega) (by omega) (by simp;omega) ?_)
   intro v9 w9 hO9 hg9 hwh;obtain⟨p9,c9,rfl,-⟩:=RwU.own hO9;obtain⟨v9,hv9⟩:∃v9,v9=Value.slice p9 (i+1) c9:=⟨_,rfl⟩
   rw[←hv9]at hO9 hwh;obtain⟨hOa,hPa,hpxa,hnew,hxa,hra,hBa,hLT⟩:=HAll.out;replace hwh:v9.ownBlock=v.ownBlock∨∀k,v9.ownBlock=some k→w3.heap.size+1≤k:=hwh.imp id (fun h k hk=>by have:=h k hk;simpa using this)
   have hx9:=QaL hxa hOa hg9 (by omega);have hr9:=QaL hra hOa hg9 (by omega);have hz9:=hg9.size;have hB9:Below w.heap.size w w9:=(Ext.grow (S:=fun _=>False) (.below hBa) hOa hg9 (by omega)).toBelow (fun _ h=>h.elim) (Xb _);have hP9:PxsIs w9 (fun d=>w.heap.size+2≤d∧v9.ownBlock≠some d) _ _:=(hPa.ext (U':=fun d=>w.heap.size+2≤d∧v9.ownBlock≠some d) (QaF hOa hg9) (fun d hd hl=>⟨hd.2,hd.1,fun h=>hwh.elim (fun e=>hd.2 (e▸h)) (fun e=>by have:=e d h;simp at hl;omega)⟩)).snoc (hpxa.ext (U':=fun d=>w.heap.size+2≤d∧v9.ownBlock≠some d) (QaF hOa hg9) (fun d hd hl=>⟨fun h=>by have:=hLT d h;omega,by omega,fun h=>hwh.elim (fun e=>by have:=hLT d (e▸h);omega) (fun e=>by have:=e d h;simp at hl;omega)⟩))
   have hfr:w9.frozen? ⟨w.heap.size+1,10,none⟩=false:=Qae hx9 10;have hc9:w9.cell? ⟨w.heap.size+1,10,none⟩=some v:=Qaa hx9 rfl;have hset:=Qac (o:=10) hx9 v9;have hsr:=Qag (o:=10) (d:=w.heap.size+1) hr9 (by omega) v9;have hsO:=Qaj (S:=(·=w.heap.size+1)) hO9 ((Ext.refl (·=w.heap.size+1) w9).set (p:=⟨w.heap.size+1,10,none⟩) (.inl rfl) v9) (fun d hd=>by omega);have hsP:=hP9.ext (S:=(·=w.heap.size+1)) (U':=fun d=>w.heap.size+2≤d∧v9.ownBlock≠some d) ((Ext.refl (·=w.heap.size+1) w9).set (p:=⟨w.heap.size+1,10,none⟩) (.inl rfl) v9) (fun d hd _=>⟨by omega,hd⟩)
   have hsB:=Qby (d:=w.heap.size+1) (o:=10) (v:=v9) hB9 (by omega);subst hv9;have HS:=Hi (Xc hset (Xc hsr (Xc hsO (Xc hsP hsB))));have hz9':w.heap.size+2≤w9.heap.size:=by simp at hz9;omega
   clear hset hsr hsO hsP hsB hP9 hB9 hr9 hz9 hOa hPa hpxa hnew hxa hra hBa hLT hO9 hg9 hwh
   go_wp2_with fail
   go_roundw
   case rel =>
    have hyt:ys.take (i+1)=ys.take i++[.mk op' s' ⟨kd,nn,vs',vt⟩ keys' pieces' l']:=by rw[List.take_add_one,HA.out.2];rfl
    exact⟨i+1,_,_,by go_num,by have:=HLEN.out;omega,HS.out.2.1,HS.out.1,HS.out.2.2.1,by rw[hyt];exact HS.out.2.2.2.1,HS.out.2.2.2.2,by simp;omega⟩
   case measure=>simp[intOf];omega
  ·obtain rfl:i=l.length:=by omega
   obtain⟨p',c',rfl,hrow⟩:=RwU.own HO.out;have HW:=Hi hrow;clear hrow;have k0:wr.cell? ⟨w.heap.size+1,0,none⟩=some (.int .i64 op):=Qaa hxb rfl;have k1:wr.cell? ⟨w.heap.size+1,1,none⟩=some (.string s):=Qaa hxb rfl;have k2:wr.cell? ⟨w.heap.size+1,2,none⟩=some (.int .i64 0):=Qaa hxb rfl;have k3:wr.cell? ⟨w.heap.size+1,3,none⟩=some (.int .i64 0):=Qaa hxb rfl;have k4:wr.cell? ⟨w.heap.size+1,4,none⟩=some (.string ⟨#[]⟩):=Qaa hxb rfl
   have k5:wr.cell? ⟨w.heap.size+1,5,none⟩=some (.string ⟨#[]⟩):=Qaa hxb rfl;have k6:wr.cell? ⟨w.heap.size+1,6,none⟩=some (.slice none 0 0):=Qaa hxb rfl;have k7:wr.cell? ⟨w.heap.size+1,7,none⟩=some (.slice none 0 0):=Qaa hxb rfl;have k8:wr.cell? ⟨w.heap.size+1,8,none⟩=some (.slice none 0 0):=Qaa hxb rfl;have k9:wr.cell? ⟨w.heap.size+1,9,none⟩=some (.slice none 0 0):=Qaa hxb rfl;have k10:wr.cell? ⟨w.heap.size+1,10,none⟩=some (.slice p' l.length c'):=Qaa hxb rfl
   have f0:wr.frozen? ⟨w.heap.size,0,none⟩=false:=Qae HRB.out 0;have f1:wr.frozen? ⟨w.heap.size,1,none⟩=false:=Qae HRB.out 1;have f2:wr.frozen? ⟨w.heap.size,2,none⟩=false:=Qae HRB.out 2;have f3:wr.frozen? ⟨w.heap.size,3,none⟩=false:=Qae HRB.out 3;have f4:wr.frozen? ⟨w.heap.size,4,none⟩=false:=Qae HRB.out 4;have f5:wr.frozen? ⟨w.heap.size,5,none⟩=false:=Qae HRB.out 5;have f6:wr.frozen? ⟨w.heap.size,6,none⟩=false:=Qae HRB.out 6
   have f7:wr.frozen? ⟨w.heap.size,7,none⟩=false:=Qae HRB.out 7;have f8:wr.frozen? ⟨w.heap.size,8,none⟩=false:=Qae HRB.out 8;have f9:wr.frozen? ⟨w.heap.size,9,none⟩=false:=Qae HRB.out 9;have f10:wr.frozen? ⟨w.heap.size,10,none⟩=false:=Qae HRB.out 10;have e0:wr.cell? ⟨w.heap.size,0,none⟩=some (.int .i64 0):=Qaa HRB.out rfl;have e1:wr.cell? ⟨w.heap.size,1,none⟩=some (.string ⟨#[]⟩):=Qaa HRB.out rfl;have e2:wr.cell? ⟨w.heap.size,2,none⟩=some (.int .i64 0):=Qaa HRB.out rfl
   have e3:wr.cell? ⟨w.heap.size,3,none⟩=some (.int .i64 0):=Qaa HRB.out rfl;have e4:wr.cell? ⟨w.heap.size,4,none⟩=some (.string ⟨#[]⟩):=Qaa HRB.out rfl;have e5:wr.cell? ⟨w.heap.size,5,none⟩=some (.string ⟨#[]⟩):=Qaa HRB.out rfl;have e6:wr.cell? ⟨w.heap.size,6,none⟩=some (.slice none 0 0):=Qaa HRB.out rfl;have e7:wr.cell? ⟨w.heap.size,7,none⟩=some (.slice none 0 0):=Qaa HRB.out rfl;have e8:wr.cell? ⟨w.heap.size,8,none⟩=some (.slice none 0 0):=Qaa HRB.out rfl
   have e9:wr.cell? ⟨w.heap.size,9,none⟩=some (.slice none 0 0):=Qaa HRB.out rfl;have e10:wr.cell? ⟨w.heap.size,10,none⟩=some (.slice none 0 0):=Qaa HRB.out rfl;clear hxb
   go_wp2_with fail
   obtain⟨w9,hw9,h9,hE⟩:=Qch HRB.out rfl (.int .i64 op) (.string s) (.int .i64 0) (.int .i64 0) (.string ⟨#[]⟩) (.string ⟨#[]⟩) (.slice none 0 0) (.slice none 0 0) (.slice none 0 0) (.slice none 0 0) (.slice p' l.length c');rw[hw9];clear hw9;refine Qbp _ 6 7 (by kernel_rfl) rfl rfl rfl h9 rfl ?_;have hyl:=HLEN.out;refine⟨((Ext.below (S:=fun _=>False) HB.out).trans' hE (fun d hd=>by omega)).toBelow (fun _ h=>h.elim) (Xb _),_,?_,rfl⟩
   have hP:=HP.out;rw[List.take_of_length_le (by omega)]at hP;have hrow':=HW.out.ext (U':=(w.heap.size≤·)) hE (fun d hd _=>by omega);rw[←hyl]at hrow' ⊢;exact .mk op s pv0 [] [] ys none none p' 0 0 c' cs .nil .nil hrow' (fun i a hi=>(hP.2 i a hi).ext hE (fun d hd _=>by omega))
end Go.Proofs.Pg
namespace Go.Proofs.Pg
open Go.RowKit Go.Proofs.Tryz
def isIf:TypeDesc→Bool
 | .interface _=>true
 | _=>false
theorem Qa4{P:Program}{T:TypeId}{d:TypeDesc}(hu:P.underlying T=some d)(hd:isIf d=false)(xT:TypeId)(v:Value)(w:World) :
  (Instr.typeAssert (.iface T v) xT T true).run P w=.ok (.tuple #[v,.bool true]) w:=by
 unfold Instr.typeAssert;simp only[Sem.run_bind,run_underlying hu,Result.andThen_ok];cases d<;>first | (simp[isIf]at hd;done) | (simp only[if_true];rfl)
theorem QaU{P:Program}{T:TypeId}{d:TypeDesc}(hu:P.underlying T=some d)(hd:isIf d=false){z:Value}(hz:∀w,(zeroValue T).run P w=.ok z w)
  (xT t:TypeId)(v:Value)(ht:¬t=T)(w:World) :
  (Instr.typeAssert (.iface t v) xT T true).run P w=.ok (.tuple #[z,.bool false]) w:=by
 unfold Instr.typeAssert;simp only[Sem.run_bind,run_underlying hu,Result.andThen_ok];cases d<;>first | (simp[isIf]at hd;done) | (simp only[ht,if_false,if_true,Sem.run_bind,hz,Result.andThen_ok];rfl)
@[go_sem] theorem tn182(t:TypeId)(v:Value)(ht:¬t=182)(w:World):(Instr.typeAssert (.iface t v) 136 182 true).run prog w=.ok (.tuple #[(.agg #[.nilIface]),.bool false]) w :=
 QaU underlying182 rfl zeroValue182 136 t v ht w
@[go_sem] theorem ty182(v:Value)(w:World):(Instr.typeAssert (.iface 182 v) 136 182 true).run prog w=.ok (.tuple #[v,.bool true]) w :=
 Qa4 underlying182 rfl 136 v w
@[go_sem] theorem tn186(t:TypeId)(v:Value)(ht:¬t=186)(w:World):(Instr.typeAssert (.iface t v) 136 186 true).run prog w=.ok (.tuple #[(.agg #[.string ⟨#[]⟩]),.bool false]) w :=
 QaU underlying186 rfl zeroValue186 136 t v ht w
@[go_sem] theorem ty186(v:Value)(w:World):(Instr.typeAssert (.iface 186 v) 136 186 true).run prog w=.ok (.tuple #[v,.bool true]) w :=
 Qa4 underlying186 rfl 136 v w
@[go_sem] theorem tn188(t:TypeId)(v:Value)(ht:¬t=188)(w:World):(Instr.typeAssert (.iface t v) 136 188 true).run prog w=.ok (.tuple #[(.agg #[.nilIface,.nilIface,.nilIface]),.bool false]) w :=
 QaU underlying188 rfl zeroValue188 136 t v ht w
@[go_sem] theorem ty188(v:Value)(w:World):(Instr.typeAssert (.iface 188 v) 136 188 true).run prog w=.ok (.tuple #[v,.bool true]) w :=
 Qa4 underlying188 rfl 136 v w
@[go_sem] theorem tn193(t:TypeId)(v:Value)(ht:¬t=193)(w:World):(Instr.typeAssert (.iface t v) 136 193 true).run prog w=.ok (.tuple #[(.agg #[.nilIface,.string ⟨#[]⟩]),.bool false]) w :=
 QaU underlying193 rfl zeroValue193 136 t v ht w
@[go_sem] theorem ty193(v:Value)(w:World):(Instr.typeAssert (.iface 193 v) 136 193 true).run prog w=.ok (.tuple #[v,.bool true]) w :=
 Qa4 underlying193 rfl 136 v w
@[go_sem] theorem tn194(t:TypeId)(v:Value)(ht:¬t=194)(w:World):(Instr.typeAssert (.iface t v) 136 194 true).run prog w=.ok (.tuple #[(.agg #[.nilIface,.string ⟨#[]⟩]),.bool false]) w :=
 QaU underlying194 rfl zeroValue194 136 t v ht w
@[go_sem] theorem ty194(v:Value)(w:World):(Instr.typeAssert (.iface 194 v) 136 194 true).run prog w=.ok (.tuple #[v,.bool true]) w :=
 Qa4 underlying194 rfl 136 v w
@[go_sem] theorem tn199(t:TypeId)(v:Value)(ht:¬t=199)(w:World):(Instr.typeAssert (.iface t v) 136 199 true).run prog w=.ok (.tuple #[(.agg #[.nilIface,.slice none 0 0]),.bool false]) w :=
 QaU underlying199 rfl zeroValue199 136 t v ht w
@[go_sem] theorem ty199(v:Value)(w:World):(Instr.typeAssert (.iface 199 v) 136 199 true).run prog w=.ok (.tuple #[v,.bool true]) w :=
 Qa4 underlying199 rfl 136 v w
@[go_sem] theorem tn202(t:TypeId)(v:Value)(ht:¬t=202)(w:World):(Instr.typeAssert (.iface t v) 136 202 true).run prog w=.ok (.tuple #[(.agg #[.nilIface,.string ⟨#[]⟩]),.bool false]) w :=
 QaU underlying202 rfl zeroValue202 136 t v ht w
@[go_sem] theorem ty202(v:Value)(w:World):(Instr.typeAssert (.iface 202 v) 136 202 true).run prog w=.ok (.tuple #[v,.bool true]) w :=
 Qa4 underlying202 rfl 136 v w
@[go_sem] theorem tn204(t:TypeId)(v:Value)(ht:¬t=204)(w:World):(Instr.typeAssert (.iface t v) 136 204 true).run prog w=.ok (.tuple #[(.agg #[.nilIface,.string ⟨#[]⟩,.nilIface]),.bool false]) w :=
 QaU underlying204 rfl zeroValue204 136 t v ht w
@[go_sem] theorem ty204(v:Value)(w:World):(Instr.typeAssert (.iface 204 v) 136 204 true).run prog w=.ok (.tuple #[v,.bool true]) w :=
 Qa4 underlying204 rfl 136 v w
@[go_sem] theorem tn208(t:TypeId)(v:Value)(ht:¬t=208)(w:World):(Instr.typeAssert (.iface t v) 136 208 true).run prog w=.ok (.tuple #[(.agg #[.nilIface]),.bool false]) w :=
 QaU underlying208 rfl zeroValue208 136 t v ht w
@[go_sem] theorem ty208(v:Value)(w:World):(Instr.typeAssert (.iface 208 v) 136 208 true).run prog w=.ok (.tuple #[v,.bool true]) w :=
 Qa4 underlying208 rfl 136 v w
@[go_sem] theorem tn209(t:TypeId)(v:Value)(ht:¬t=209)(w:World):(Instr.typeAssert (.iface t v) 136 209 true).run prog w=.ok (.tuple #[(.agg #[.nilIface]),.bool false]) w :=
 QaU underlying209 rfl zeroValue209 136 t v ht w
@[go_sem] theorem ty209(v:Value)(w:World):(Instr.typeAssert (.iface 209 v) 136 209 true).run prog w=.ok (.tuple #[v,.bool true]) w :=
 Qa4 underlying209 rfl 136 v w
@[go_sem] theorem tn210(t:TypeId)(v:Value)(ht:¬t=210)(w:World):(Instr.typeAssert (.iface t v) 136 210 true).run prog w=.ok (.tuple #[(.agg #[.nilIface]),.bool false]) w :=
 QaU underlying210 rfl zeroValue210 136 t v ht w
@[go_sem] theorem ty210(v:Value)(w:World):(Instr.typeAssert (.iface 210 v) 136 210 true).run prog w=.ok (.tuple #[v,.bool true]) w :=
 Qa4 underlying210 rfl 136 v w
@[go_sem] theorem tn214(t:TypeId)(v:Value)(ht:¬t=214)(w:World):(Instr.typeAssert (.iface t v) 136 214 true).run prog w=.ok (.tuple #[(.agg #[.string ⟨#[]⟩,.slice none 0 0]),.bool false]) w :=
 QaU underlying214 rfl zeroValue214 136 t v ht w
@[go_sem] theorem ty214(v:Value)(w:World):(Instr.typeAssert (.iface 214 v) 136 214 true).run prog w=.ok (.tuple #[v,.bool true]) w :=
 Qa4 underlying214 rfl 136 v w
@[go_sem] theorem tn216(t:TypeId)(v:Value)(ht:¬t=216)(w:World):(Instr.typeAssert (.iface t v) 136 216 true).run prog w=.ok (.tuple #[(.agg #[.slice none 0 0]),.bool false]) w :=
 QaU underlying216 rfl zeroValue216 136 t v ht w
@[go_sem] theorem ty216(v:Value)(w:World):(Instr.typeAssert (.iface 216 v) 136 216 true).run prog w=.ok (.tuple #[v,.bool true]) w :=
 Qa4 underlying216 rfl 136 v w
@[go_sem] theorem tn219(t:TypeId)(v:Value)(ht:¬t=219)(w:World):(Instr.typeAssert (.iface t v) 136 219 true).run prog w=.ok (.tuple #[(.agg #[.slice none 0 0]),.bool false]) w :=
 QaU underlying219 rfl zeroValue219 136 t v ht w
@[go_sem] theorem ty219(v:Value)(w:World):(Instr.typeAssert (.iface 219 v) 136 219 true).run prog w=.ok (.tuple #[v,.bool true]) w :=
 Qa4 underlying219 rfl 136 v w
@[go_sem] theorem tn260(t:TypeId)(v:Value)(ht:¬t=260)(w:World):(Instr.typeAssert (.iface t v) 136 260 true).run prog w=.ok (.tuple #[(.agg #[.nilIface,.nilIface]),.bool false]) w :=
 QaU underlying260 rfl zeroValue260 136 t v ht w
@[go_sem] theorem ty260(v:Value)(w:World):(Instr.typeAssert (.iface 260 v) 136 260 true).run prog w=.ok (.tuple #[v,.bool true]) w :=
 Qa4 underlying260 rfl 136 v w
@[go_sem] theorem tn262(t:TypeId)(v:Value)(ht:¬t=262)(w:World):(Instr.typeAssert (.iface t v) 136 262 true).run prog w=.ok (.tuple #[(.agg #[.nilIface,.nilIface]),.bool false]) w :=
 QaU underlying262 rfl zeroValue262 136 t v ht w
@[go_sem] theorem ty262(v:Value)(w:World):(Instr.typeAssert (.iface 262 v) 136 262 true).run prog w=.ok (.tuple #[v,.bool true]) w :=
 Qa4 underlying262 rfl 136 v w
@[go_sem] theorem tn263(t:TypeId)(v:Value)(ht:¬t=263)(w:World):(Instr.typeAssert (.iface t v) 136 263 true).run prog w=.ok (.tuple #[(.agg #[.nilIface,.nilIface]),.bool false]) w :=
 QaU underlying263 rfl zeroValue263 136 t v ht w
@[go_sem] theorem ty263(v:Value)(w:World):(Instr.typeAssert (.iface 263 v) 136 263 true).run prog w=.ok (.tuple #[v,.bool true]) w :=
 Qa4 underlying263 rfl 136 v w
@[go_sem] theorem tn264(t:TypeId)(v:Value)(ht:¬t=264)(w:World):(Instr.typeAssert (.iface t v) 136 264 true).run prog w=.ok (.tuple #[(.agg #[.nilIface,.nilIface]),.bool false]) w :=
 QaU underlying264 rfl zeroValue264 136 t v ht w
@[go_sem] theorem ty264(v:Value)(w:World):(Instr.typeAssert (.iface 264 v) 136 264 true).run prog w=.ok (.tuple #[v,.bool true]) w :=
 Qa4 underlying264 rfl 136 v w
@[go_sem] theorem tn265(t:TypeId)(v:Value)(ht:¬t=265)(w:World):(Instr.typeAssert (.iface t v) 136 265 true).run prog w=.ok (.tuple #[(.agg #[.nilIface,.nilIface]),.bool false]) w :=
 QaU underlying265 rfl zeroValue265 136 t v ht w
@[go_sem] theorem ty265(v:Value)(w:World):(Instr.typeAssert (.iface 265 v) 136 265 true).run prog w=.ok (.tuple #[v,.bool true]) w :=
 Qa4 underlying265 rfl 136 v w
@[go_sem] theorem tn266(t:TypeId)(v:Value)(ht:¬t=266)(w:World):(Instr.typeAssert (.iface t v) 136 266 true).run prog w=.ok (.tuple #[(.agg #[.nilIface,.nilIface]),.bool false]) w :=
 QaU underlying266 rfl zeroValue266 136 t v ht w
@[go_sem] theorem ty266(v:Value)(w:World):(Instr.typeAssert (.iface 266 v) 136 266 true).run prog w=.ok (.tuple #[v,.bool true]) w :=
 Qa4 underlying266 rfl 136 v w
@[go_sem] theorem tn267(t:TypeId)(v:Value)(ht:¬t=267)(w:World):(Instr.typeAssert (.iface t v) 136 267 true).run prog w=.ok (.tuple #[(.agg #[.nilIface,.nilIface]),.bool false]) w :=
 QaU underlying267 rfl zeroValue267 136 t v ht w
@[go_sem] theorem ty267(v:Value)(w:World):(Instr.typeAssert (.iface 267 v) 136 267 true).run prog w=.ok (.tuple #[v,.bool true]) w :=
 Qa4 underlying267 rfl 136 v w
@[go_sem] theorem tn268(t:TypeId)(v:Value)(ht:¬t=268)(w:World):(Instr.typeAssert (.iface t v) 136 268 true).run prog w=.ok (.tuple #[(.agg #[.nilIface,.nilIface]),.bool false]) w :=
 QaU underlying268 rfl zeroValue268 136 t v ht w
@[go_sem] theorem ty268(v:Value)(w:World):(Instr.typeAssert (.iface 268 v) 136 268 true).run prog w=.ok (.tuple #[v,.bool true]) w :=
 Qa4 underlying268 rfl 136 v w
@[go_sem] theorem tn269(t:TypeId)(v:Value)(ht:¬t=269)(w:World):(Instr.typeAssert (.iface t v) 136 269 true).run prog w=.ok (.tuple #[(.agg #[.nilIface,.nilIface]),.bool false]) w :=
 QaU underlying269 rfl zeroValue269 136 t v ht w
@[go_sem] theorem ty269(v:Value)(w:World):(Instr.typeAssert (.iface 269 v) 136 269 true).run prog w=.ok (.tuple #[v,.bool true]) w :=
 Qa4 underlying269 rfl 136 v w
@[go_sem] theorem tn270(t:TypeId)(v:Value)(ht:¬t=270)(w:World):(Instr.typeAssert (.iface t v) 136 270 true).run prog w=.ok (.tuple #[(.agg #[.nilIface,.nilIface]),.bool false]) w :=
 QaU underlying270 rfl zeroValue270 136 t v ht w
@[go_sem] theorem ty270(v:Value)(w:World):(Instr.typeAssert (.iface 270 v) 136 270 true).run prog w=.ok (.tuple #[v,.bool true]) w :=
 Qa4 underlying270 rfl 136 v w
@[go_sem] theorem tn271(t:TypeId)(v:Value)(ht:¬t=271)(w:World):(Instr.typeAssert (.iface t v) 136 271 true).run prog w=.ok (.tuple #[(.agg #[.nilIface,.nilIface]),.bool false]) w :=
 QaU underlying271 rfl zeroValue271 136 t v ht w
@[go_sem] theorem ty271(v:Value)(w:World):(Instr.typeAssert (.iface 271 v) 136 271 true).run prog w=.ok (.tuple #[v,.bool true]) w :=
 Qa4 underlying271 rfl 136 v w
@[go_sem] theorem tn275(t:TypeId)(v:Value)(ht:¬t=275)(w:World):(Instr.typeAssert (.iface t v) 136 275 true).run prog w=.ok (.tuple #[(.agg #[.nilIface,.nilIface]),.bool false]) w :=
 QaU underlying275 rfl zeroValue275 136 t v ht w
@[go_sem] theorem ty275(v:Value)(w:World):(Instr.typeAssert (.iface 275 v) 136 275 true).run prog w=.ok (.tuple #[v,.bool true]) w :=
 Qa4 underlying275 rfl 136 v w
@[go_sem] theorem tn276(t:TypeId)(v:Value)(ht:¬t=276)(w:World):(Instr.typeAssert (.iface t v) 136 276 true).run prog w=.ok (.tuple #[(.agg #[.nilIface,.nilIface]),.bool false]) w :=
 QaU underlying276 rfl zeroValue276 136 t v ht w
@[go_sem] theorem ty276(v:Value)(w:World):(Instr.typeAssert (.iface 276 v) 136 276 true).run prog w=.ok (.tuple #[v,.bool true]) w :=
 Qa4 underlying276 rfl 136 v w
@[go_sem] theorem tn277(t:TypeId)(v:Value)(ht:¬t=277)(w:World):(Instr.typeAssert (.iface t v) 136 277 true).run prog w=.ok (.tuple #[(.agg #[.nilIface,.nilIface]),.bool false]) w :=
 QaU underlying277 rfl zeroValue277 136 t v ht w
@[go_sem] theorem ty277(v:Value)(w:World):(Instr.typeAssert (.iface 277 v) 136 277 true).run prog w=.ok (.tuple #[v,.bool true]) w :=
 Qa4 underlying277 rfl 136 v w
@[go_sem] theorem tn278(t:TypeId)(v:Value)(ht:¬t=278)(w:World):(Instr.typeAssert (.iface t v) 136 278 true).run prog w=.ok (.tuple #[(.agg #[.nilIface,.nilIface]),.bool false]) w :=
 QaU underlying278 rfl zeroValue278 136 t v ht w
@[go_sem] theorem ty278(v:Value)(w:World):(Instr.typeAssert (.iface 278 v) 136 278 true).run prog w=.ok (.tuple #[v,.bool true]) w :=
 Qa4 underlying278 rfl 136 v w
@[go_sem] theorem tn279(t:TypeId)(v:Value)(ht:¬t=279)(w:World):(Instr.typeAssert (.iface t v) 136 279 true).run prog w=.ok (.tuple #[(.agg #[.nilIface,.nilIface]),.bool false]) w :=
 QaU underlying279 rfl zeroValue279 136 t v ht w
@[go_sem] theorem ty279(v:Value)(w:World):(Instr.typeAssert (.iface 279 v) 136 279 true).run prog w=.ok (.tuple #[v,.bool true]) w :=
 Qa4 underlying279 rfl 136 v w
@[go_sem] theorem tn280(t:TypeId)(v:Value)(ht:¬t=280)(w:World):(Instr.typeAssert (.iface t v) 136 280 true).run prog w=.ok (.tuple #[(.agg #[.nilIface,.nilIface]),.bool false]) w :=
 QaU underlying280 rfl zeroValue280 136 t v ht w
@[go_sem] theorem ty280(v:Value)(w:World):(Instr.typeAssert (.iface 280 v) 136 280 true).run prog w=.ok (.tuple #[v,.bool true]) w :=
 Qa4 underlying280 rfl 136 v w
@[go_sem] theorem tn252(t:TypeId)(v:Value)(ht:¬t=252)(w:World):(Instr.typeAssert (.iface t v) 180 252 true).run prog w=.ok (.tuple #[(.bool false),.bool false]) w :=
 QaU underlying252 rfl zeroValue252 180 t v ht w
@[go_sem] theorem ty252(v:Value)(w:World):(Instr.typeAssert (.iface 252 v) 180 252 true).run prog w=.ok (.tuple #[v,.bool true]) w :=
 Qa4 underlying252 rfl 180 v w
@[go_sem] theorem tn253(t:TypeId)(v:Value)(ht:¬t=253)(w:World):(Instr.typeAssert (.iface t v) 180 253 true).run prog w=.ok (.tuple #[(.int .i64 0),.bool false]) w :=
 QaU underlying253 rfl zeroValue253 180 t v ht w
@[go_sem] theorem ty253(v:Value)(w:World):(Instr.typeAssert (.iface 253 v) 180 253 true).run prog w=.ok (.tuple #[v,.bool true]) w :=
 Qa4 underlying253 rfl 180 v w
@[go_sem] theorem tn131(t:TypeId)(v:Value)(ht:¬t=131)(w:World):(Instr.typeAssert (.iface t v) 180 131 true).run prog w=.ok (.tuple #[(.string ⟨#[]⟩),.bool false]) w :=
 QaU underlying131 rfl zeroValue131 180 t v ht w
@[go_sem] theorem ty131(v:Value)(w:World):(Instr.typeAssert (.iface 131 v) 180 131 true).run prog w=.ok (.tuple #[v,.bool true]) w :=
 Qa4 underlying131 rfl 180 v w
@[go_sem] theorem tn167(t:TypeId)(v:Value)(ht:¬t=167)(w:World):(Instr.typeAssert (.iface t v) 180 167 true).run prog w=.ok (.tuple #[(.agg #[.string ⟨#[]⟩,.string ⟨#[]⟩]),.bool false]) w :=
 QaU underlying167 rfl zeroValue167 180 t v ht w
@[go_sem] theorem ty167(v:Value)(w:World):(Instr.typeAssert (.iface 167 v) 180 167 true).run prog w=.ok (.tuple #[v,.bool true]) w :=
 Qa4 underlying167 rfl 180 v w
@[go_sem] theorem tn169(t:TypeId)(v:Value)(ht:¬t=169)(w:World):(Instr.typeAssert (.iface t v) 164 169 true).run prog w=.ok (.tuple #[(.agg #[.string ⟨#[]⟩,.string ⟨#[]⟩]),.bool false]) w :=
 QaU underlying169 rfl zeroValue169 164 t v ht w
@[go_sem] theorem ty169(v:Value)(w:World):(Instr.typeAssert (.iface 169 v) 164 169 true).run prog w=.ok (.tuple #[v,.bool true]) w :=
 Qa4 underlying169 rfl 164 v w
@[go_sem] theorem tn171(t:TypeId)(v:Value)(ht:¬t=171)(w:World):(Instr.typeAssert (.iface t v) 164 171 true).run prog w=.ok (.tuple #[(.agg #[.string ⟨#[]⟩,.string ⟨#[]⟩]),.bool false]) w :=
 QaU underlying171 rfl zeroValue171 164 t v ht w
@[go_sem] theorem ty171(v:Value)(w:World):(Instr.typeAssert (.iface 171 v) 164 171 true).run prog w=.ok (.tuple #[v,.bool true]) w :=
 Qa4 underlying171 rfl 164 v w
@[go_sem] theorem tn174(t:TypeId)(v:Value)(ht:¬t=174)(w:World):(Instr.typeAssert (.iface t v) 164 174 true).run prog w=.ok (.tuple #[(.agg #[.slice none 0 0]),.bool false]) w :=
 QaU underlying174 rfl zeroValue174 164 t v ht w
@[go_sem] theorem ty174(v:Value)(w:World):(Instr.typeAssert (.iface 174 v) 164 174 true).run prog w=.ok (.tuple #[v,.bool true]) w :=
 Qa4 underlying174 rfl 164 v w
@[go_sem] theorem tn176(t:TypeId)(v:Value)(ht:¬t=176)(w:World):(Instr.typeAssert (.iface t v) 164 176 true).run prog w=.ok (.tuple #[(.agg #[.string ⟨#[]⟩]),.bool false]) w :=
 QaU underlying176 rfl zeroValue176 164 t v ht w
@[go_sem] theorem ty176(v:Value)(w:World):(Instr.typeAssert (.iface 176 v) 164 176 true).run prog w=.ok (.tuple #[v,.bool true]) w :=
 Qa4 underlying176 rfl 164 v w
@[go_sem] theorem tn178(t:TypeId)(v:Value)(ht:¬t=178)(w:World):(Instr.typeAssert (.iface t v) 164 178 true).run prog w=.ok (.tuple #[(.agg #[.string ⟨#[]⟩,.string ⟨#[]⟩,.string ⟨#[]⟩]),.bool false]) w :=
 QaU underlying178 rfl zeroValue178 164 t v ht w
@[go_sem] theorem ty178(v:Value)(w:World):(Instr.typeAssert (.iface 178 v) 164 178 true).run prog w=.ok (.tuple #[v,.bool true]) w :=
 Qa4 underlying178 rfl 164 v w
@[go_sem] theorem tn9(t:TypeId)(v:Value)(ht:¬t=9)(w:World):(Instr.typeAssert (.iface t v) 20 9 true).run prog w=.ok (.tuple #[(.string ⟨#[]⟩),.bool false]) w :=
 QaU underlying9 rfl zeroValue9 20 t v ht w
@[go_sem] theorem ty9(v:Value)(w:World):(Instr.typeAssert (.iface 9 v) 20 9 true).run prog w=.ok (.tuple #[v,.bool true]) w :=
 Qa4 underlying9 rfl 20 v w
end Go.Proofs.Pg
namespace Go.Proofs.Pg
open Go.RowKit Go.Proofs.Tryz
attribute [local go_sem] Oper.semAt_some
theorem Qh5{w:World}{v:Value}:RowAt (w.alloc (.cells #[v] 136)) w.heap.size 136 (some ⟨w.heap.size,0,none⟩) 1 (fun _=>v) :=
 .inr ⟨w.heap.size,0,#[v],(0,0),rfl,Xb _,Xa w _,fun i hi=>by
  have h0:i=0:=by omega
  subst h0;rfl⟩
theorem QcC{a:Ex}{y:PEx}(hC:PxC a y)(w w0:World)(op:Int)(s:ByteArray)(lo c:Nat)(v:Value)(blk:Nat)(hr:w=w0.alloc (.cells #[v] 136))(hb:w0.heap.size=blk)(hn:NodeIs w lo v a) :
  Calls prog 65 #[.int .i64 op,.string s,.slice (some ⟨blk,0,none⟩) 1 c] w (PxP w (.mk op s pv0 [] [] [y])):=by
 subst hr;subst hb;exact Qe6 (l:=[a]) (ys:=[y]) rfl (fun i a' y' h1 h2=>by
  have hi:i=0:=by have:=(List.getElem?_eq_some_iff.1 h1).1;simp at this;exact this
  subst hi;simp at h1 h2;subst h1;subst h2;exact hC) _ op s 0 _ c (fun _=>v) (Qh5.mono (Nat.zero_le _)) (fun i a' h1=>by
  have hi:i=0:=by have:=(List.getElem?_eq_some_iff.1 h1).1;simp at this;exact this
  subst hi;simp at h1;subst h1;exact hn.mono (Nat.zero_le _)) (by simp)
theorem Qh6{a b:Ex}{y z:PEx}(hC:PxC a y)(hD:PxC b z)(w w0:World)(op:Int)(s:ByteArray)(lo c:Nat)(v u:Value)(blk:Nat)(hr:w=w0.alloc (.cells #[v,u] 136))(hb:w0.heap.size=blk)(hn:NodeIs w lo v a)(hm:NodeIs w lo u b) :
  Calls prog 65 #[.int .i64 op,.string s,.slice (some ⟨blk,0,none⟩) 2 c] w (PxP w (.mk op s pv0 [] [] [y,z])):=by
 subst hr;subst hb;refine Qe6 (l:=[a,b]) (ys:=[y,z]) rfl (fun i a' y' h1 h2=>?_) _ op s 0 _ c (fun i=>if i=0 then v else u) (.inr ⟨w0.heap.size,0,#[v,u],(0,0),rfl,Nat.zero_le _,Xa w0 _,fun i hi=>?_⟩) (fun i a' h1=>?_) (by simp)
 ·match i,h1,h2 with
  | 0,h1,h2=>simp at h1 h2;subst h1;subst h2;exact hC
  | 1,h1,h2=>simp at h1 h2;subst h1;subst h2;exact hD
 ·match i,hi with
  | 0,_=>rfl
  | 1,_=>rfl
 ·match i,h1 with
  | 0,h1=>simp at h1;subst h1;exact hn.mono (Nat.zero_le _)
  | 1,h1=>simp at h1;subst h1;exact hm.mono (Nat.zero_le _)
theorem many3_c{a b c:Ex}{y z x:PEx}(hC:PxC a y)(hD:PxC b z)(hE:PxC c x)(w w0:World)(op:Int)(s:ByteArray)(lo k:Nat)(v u t:Value)(blk:Nat)(hr:w=w0.alloc (.cells #[v,u,t] 136))(hb:w0.heap.size=blk)(hn:NodeIs w lo v a)(hm:NodeIs w lo u b)(ho:NodeIs w lo t c) :
  Calls prog 65 #[.int .i64 op,.string s,.slice (some ⟨blk,0,none⟩) 3 k] w (PxP w (.mk op s pv0 [] [] [y,z,x])):=by
 subst hr;subst hb;refine Qe6 (l:=[a,b,c]) (ys:=[y,z,x]) rfl (fun i a' y' h1 h2=>?_) _ op s 0 _ k (fun i=>if i=0 then v else if i=1 then u else t) (.inr ⟨w0.heap.size,0,#[v,u,t],(0,0),rfl,Nat.zero_le _,Xa w0 _,fun i hi=>?_⟩) (fun i a' h1=>?_) (by simp)
 ·match i,h1,h2 with
  | 0,h1,h2=>simp at h1 h2;subst h1;subst h2;exact hC
  | 1,h1,h2=>simp at h1 h2;subst h1;subst h2;exact hD
  | 2,h1,h2=>simp at h1 h2;subst h1;subst h2;exact hE
 ·match i,hi with
  | 0,_=>rfl
  | 1,_=>rfl
  | 2,_=>rfl
 ·match i,h1 with
  | 0,h1=>simp at h1;subst h1;exact hn.mono (Nat.zero_le _)
  | 1,h1=>simp at h1;subst h1;exact hm.mono (Nat.zero_le _)
  | 2,h1=>simp at h1;subst h1;exact ho.mono (Nat.zero_le _)
theorem PxIs.get{w:World}{U:Nat→Prop}{cs:List Value}{x:PEx}(h:PxIs w U cs x):∃op s kd nn vs vt pk nk ck pp np cp pl nl cl,cs=[.int .i64 op,.string s,.int .i64 kd,.int .i64 nn,.string vs,.string vt,.slice none 0 0,.slice none 0 0,.slice pk nk ck,.slice pp np cp,.slice pl nl cl]:=by
 cases h;exact⟨_,_,_,_,_,_,_,_,_,_,_,_,_,_,_,rfl⟩
theorem QbV{w W w2 w9:World}{R:Nat}{cs:List Value}{x:PEx}(hp:PxIs w2 (W.heap.size≤·) cs x)(hb:Below w.heap.size w w2)(hE:Ext (·=R) w2 w9)(hR:w.heap.size≤R)(hW:R<W.heap.size):PxP w x (.returned (.tuple #[.agg cs.toArray,.bool true])) w9 :=
 ⟨((Ext.below (S:=fun _=>False) hb).trans' hE (fun d hd=>by omega)).toBelow (fun _ h=>h.elim) (Xb _),cs,hp.ext hE (fun d hd _=>by omega),rfl⟩
theorem Qa6{w:World}{R:Nat}(h:w.heap[R]? =some (.cells xZero 33 (0,0))):w.cell? ⟨R,0,none⟩=some (.int .i64 0)∧w.cell? ⟨R,1,none⟩=some (.string ⟨#[]⟩)∧w.cell? ⟨R,2,none⟩=some (.int .i64 0)∧w.cell? ⟨R,3,none⟩=some (.int .i64 0)∧w.cell? ⟨R,4,none⟩=some (.string ⟨#[]⟩)∧w.cell? ⟨R,5,none⟩=some (.string ⟨#[]⟩)∧w.cell? ⟨R,6,none⟩=some (.slice none 0 0)∧w.cell? ⟨R,7,none⟩=some (.slice none 0 0)∧w.cell? ⟨R,8,none⟩=some (.slice none 0 0)∧w.cell? ⟨R,9,none⟩=some (.slice none 0 0)∧w.cell? ⟨R,10,none⟩=some (.slice none 0 0)∧w.frozen? ⟨R,0,none⟩=false∧w.frozen? ⟨R,1,none⟩=false∧w.frozen? ⟨R,2,none⟩=false∧w.frozen? ⟨R,3,none⟩=false∧w.frozen? ⟨R,4,none⟩=false∧w.frozen? ⟨R,5,none⟩=false∧w.frozen? ⟨R,6,none⟩=false∧w.frozen? ⟨R,7,none⟩=false∧w.frozen? ⟨R,8,none⟩=false∧w.frozen? ⟨R,9,none⟩=false∧w.frozen? ⟨R,10,none⟩=false :=
 ⟨Qaa h rfl,Qaa h rfl,Qaa h rfl,Qaa h rfl,Qaa h rfl,Qaa h rfl,Qaa h rfl,Qaa h rfl,Qaa h rfl,Qaa h rfl,Qaa h rfl,Qae h 0,Qae h 1,Qae h 2,Qae h 3,Qae h 4,Qae h 5,Qae h 6,Qae h 7,Qae h 8,Qae h 9,Qae h 10⟩
theorem two_c{a b:Ex}{y z:PEx}(hC:PxC a y)(hD:PxC b z)(w:World)(op:Int)(lo:Nat)(T1 T2:TypeId)(v u:Value)(hn:NodeIs w lo (.iface T1 v) a)(hm:NodeIs w lo (.iface T2 u) b) :
  Calls prog 90 #[.int .i64 op,.agg #[.iface T1 v,.iface T2 u]] w (PxP w (.mk op ⟨#[]⟩ pv0 [] [] [y,z])):=by
 have HC:=Hi (Xc hC hD);clear hC hD;go_enter func90,ntmps90
 go_wp2_with fail
 have hR:((w.alloc (.cells #[.iface T1 v,.iface T2 u] 258)).alloc (.cells xZero 33)).heap[w.heap.size+1]? =some (.cells xZero 33 (0,0)):=Qah (by simp) _;have HR:=Hi (Qaf hR (.cells #[.iface T1 v,.iface T2 u] 136));clear hR;have HBB:=Hi ((((Qab w (.cells #[.iface T1 v,.iface T2 u] 258)).alloc (by simp) (.cells xZero 33)).alloc (by simp;omega) (.cells #[.iface T1 v,.iface T2 u] 136)));refine(Qh6 HC.out.1 HC.out.2 _ ((w.alloc _).alloc _) op _ lo _ _ _ _ rfl (by simp) (hn.later HBB.out) (hm.later HBB.out)).mono ?_
 rintro e w2⟨B2,ds,hpx,rfl⟩;obtain⟨op',s',kd,nn,vs,vt,pk,nk,ck,pp,np,cp,pl,nl,cl,rfl⟩:=hpx.get;have HPX:=Hi hpx;clear hpx;have HR2:=Hi ((B2.block _ (Qad HR.out)).trans HR.out);have HB2:=Hi (HBB.out.trans (B2.mono HBB.out.size));clear B2;obtain⟨e0,e1,e2,e3,e4,e5,e6,e7,e8,e9,e10,f0,f1,f2,f3,f4,f5,f6,f7,f8,f9,f10⟩:=Qa6 HR2.out
 go_wp2_with fail
 obtain⟨w9,hw9,h9,hE⟩:=Qch HR2.out rfl (.int .i64 op') (.string s') (.int .i64 kd) (.int .i64 nn) (.string vs) (.string vt) (.slice none 0 0) (.slice none 0 0) (.slice pk nk ck) (.slice pp np cp) (.slice pl nl cl);rw[hw9];clear hw9;refine Qbp _ 4 5 (by kernel_rfl) rfl rfl rfl h9 rfl ?_;exact QbV HPX.out HB2.out hE (by simp) (by simp)
def binT:List (Nat×Int):=[(260,4),(262,5),(263,6),(264,7),(265,8),(266,9),(267,10),(268,11),(269,12),(270,14),(271,24),(275,18),(276,19),(277,20),(278,26),(279,27),(280,28)]
theorem bin_c{a b:Ex}{y z:PEx}(hC:PxC a y)(hD:PxC b z)(w:World)(op:Nat)(code:Int)(lo:Nat)(v u:Value)(hn:NodeIs w lo v a)(hm:NodeIs w lo u b)(hop:(op,code)∈binT) :
  Calls prog 67 #[.iface op (.agg #[v,u])] w (PxP w (.mk code ⟨#[]⟩ pv0 [] [] [y,z])):=by
 have HC:=Hi (Xc hC hD);clear hC hD;obtain⟨T1,v,rfl⟩:=hn.iface;obtain⟨T2,u,rfl⟩:=hm.iface;have HBB:Hid (∀o,Below w.heap.size w ((w.alloc (.cells xZero 33)).alloc o)):=Hi fun o=>(Qab w (.cells xZero 33)).alloc (by simp) _
 have HRR:Hid (∀o,((w.alloc (.cells xZero 33)).alloc o).heap[w.heap.size]? =some (.cells xZero 33 (0,0))):=Hi fun o=>Qaf (Xa w _) _
 simp only[binT,List.mem_cons,Prod.mk.injEq,List.not_mem_nil,or_false]at hop;rcases hop with⟨rfl,rfl⟩ | ⟨rfl,rfl⟩ | ⟨rfl,rfl⟩ | ⟨rfl,rfl⟩ | ⟨rfl,rfl⟩ | ⟨rfl,rfl⟩ | ⟨rfl,rfl⟩ | ⟨rfl,rfl⟩ | ⟨rfl,rfl⟩ | ⟨rfl,rfl⟩ | ⟨rfl,rfl⟩ | ⟨rfl,rfl⟩ | ⟨rfl,rfl⟩ | ⟨rfl,rfl⟩ | ⟨rfl,rfl⟩ | ⟨rfl,rfl⟩ | ⟨rfl,rfl⟩
 all_goals
  go_enter func67,ntmps67
  go_wp2_with fail
  refine(two_c HC.out.1 HC.out.2 _ _ lo _ _ _ _ (hn.later (HBB.out _)) (hm.later (HBB.out _))).mono ?_;rintro e w2⟨B2,ds,hpx,rfl⟩;obtain⟨op',s',kd,nn,vs,vt,pk,nk,ck,pp,np,cp,pl,nl,cl,rfl⟩:=hpx.get;have HPX:=Hi hpx;clear hpx;have HR2:=Hi ((B2.block _ (Qad (HRR.out _))).trans (HRR.out _));have HB2:=Hi ((HBB.out _).trans (B2.mono (HBB.out _).size));clear B2;obtain⟨e0,e1,e2,e3,e4,e5,e6,e7,e8,e9,e10,f0,f1,f2,f3,f4,f5,f6,f7,f8,f9,f10⟩:=Qa6 HR2.out
  go_wp2_with fail
  obtain⟨w9,hw9,h9,hE⟩:=Qch HR2.out rfl (.int .i64 op') (.string s') (.int .i64 kd) (.int .i64 nn) (.string vs) (.string vt) (.slice none 0 0) (.slice none 0 0) (.slice pk nk ck) (.slice pp np cp) (.slice pl nl cl);rw[hw9];clear hw9;refine Qbp _ 2 3 (by kernel_rfl) rfl rfl rfl h9 rfl ?_;exact QbV HPX.out HB2.out hE (by simp) (by simp;omega)
def toV:Vl→PV
 | .bool b=>⟨1,if b=true then 1 else 0,⟨#[]⟩,⟨#[]⟩⟩
 | .long n=>⟨2,n,⟨#[]⟩,⟨#[]⟩⟩
 | .str s=>⟨3,0,s,⟨#[]⟩⟩
 | .uid t i=>⟨4,0,i,t⟩
abbrev vCells(kd nn:Int)(s t:ByteArray):Array Value:=#[.int .i64 kd,.int .i64 nn,.string s,.string t,.slice none 0 0,.slice none 0 0]
theorem Qh7{W:World}{fn:Func}{R:Nat}{v0 v1 v2 v3 v4 v5:Value}{ok:Value}{Q:Ending→World→Prop}(a:Act)(s s2:Nat)(hf:fn.results=#[.cell s 30,.tmp s2])(ha:a.tmps.getD s undef=.pointer (some ⟨R,0,none⟩))(he:a.tmps.getD s2 undef=ok)(had:a.defers=[])
  (r:W.heap[R]? =some (.cells #[v0,v1,v2,v3,v4,v5] 30 (0,0)))(h:Q (.returned (.tuple #[.agg #[v0,v1,v2,v3,v4,v5],ok])) W):bodyPost prog fn Q Exit.ret a W:=by
 refine bodyPost_ret (QaH (a:=s) (t:=30) hf _ ⟨R,0,none⟩ ha _ _ (QfW _ _ _ _ _ _ _ _ _ (by kernel_rfl) (by kernel_rfl) (Qaa (o:=0) r rfl) (Qaa (o:=1) r rfl) (Qaa (o:=2) r rfl) (Qaa (o:=3) r rfl) (Qaa (o:=4) r rfl) (Qaa (o:=5) r rfl))) had ?_;rw[he];exact h
theorem value_c(v:Vl)(w:World):Calls prog 64 #[v.val] w fun e w'=>e=.returned (.tuple #[.agg (vCells (toV v).kind (toV v).n (toV v).s (toV v).t),.bool true])∧Below w.heap.size w w':=by
 cases v with
 | bool b =>
  cases b
  all_goals
   unfold Vl.val;go_enter func64,ntmps64
   go_wp2_with fail
   exact Qh7 _ 2 3 (by kernel_rfl) rfl rfl rfl (Xa w _) ⟨rfl,Qab w _⟩
 | uid t i =>
  unfold Vl.val;go_enter func64,ntmps64
  go_wp2_with fail
  exact Qh7 _ 2 3 (by kernel_rfl) rfl rfl rfl (Qaf (Xa w _) _) ⟨rfl,(Qab w _).alloc (by simp) _⟩
 | _ n =>
  unfold Vl.val;go_enter func64,ntmps64
  go_wp2_with fail
  exact Qh7 _ 2 3 (by kernel_rfl) rfl rfl rfl (Xa w _) ⟨rfl,Qab w _⟩
theorem QaB{P:Program}{c:Code}{Q:Exit→Act→World→Prop}{a:Act}{w:World}(h:∀x,x=w→c.wp P Q a x):c.wp P Q a w:=h w rfl
theorem px_s193{a:Ex}{y:PEx}(hC:PxC a y)(s:ByteArray):PxC (.sop 193 a s) (.mk 13 s pv0 [] [] [y]):=by
 intro w lo v hn;cases hn with
 | sop _ x _ _ hn =>
 have HC:=Hi hC;clear hC;obtain⟨T1,x,rfl⟩:=hn.iface;have HBB:=Hi (((Qab w (.cells xZero 33)).alloc (by simp) (.cells #[.iface T1 x,.string s] 193)).alloc (by simp;omega) (.cells #[.iface T1 x] 136));have HRR:=Hi (Qaf (Qaf (Xa w (.cells xZero 33)) (.cells #[.iface T1 x,.string s] 193)) (.cells #[.iface T1 x] 136));go_enter func51,ntmps51
 go_wp2_with fail
 refine(QcC HC.out _ ((w.alloc _).alloc _) 13 _ lo _ _ _ rfl (by simp) (hn.later HBB.out)).mono ?_;rintro e w2⟨B2,ds,hpx,rfl⟩;obtain⟨op',s',kd,nn,vs',vt,pk,nk,ck,pp,np,cp,pl,nl,cl,rfl⟩:=hpx.get;have HPX:=Hi hpx;clear hpx;have HR2:=Hi ((B2.block _ (Qad HRR.out)).trans HRR.out);have HB2:=Hi (HBB.out.trans (B2.mono HBB.out.size));clear B2;obtain⟨e0,e1,e2,e3,e4,e5,e6,e7,e8,e9,e10,f0,f1,f2,f3,f4,f5,f6,f7,f8,f9,f10⟩:=Qa6 HR2.out
 go_wp2_with fail
 obtain⟨w9,hw9,h9,hE⟩:=Qch HR2.out rfl (.int .i64 op') (.string s') (.int .i64 kd) (.int .i64 nn) (.string vs') (.string vt) (.slice none 0 0) (.slice none 0 0) (.slice pk nk ck) (.slice pp np cp) (.slice pl nl cl);rw[hw9];clear hw9;refine Qbp _ 2 3 (by kernel_rfl) rfl rfl rfl h9 rfl ?_;exact QbV HPX.out HB2.out hE (by simp) (by simp<;>omega)
theorem px_s194{a:Ex}{y:PEx}(hC:PxC a y)(s:ByteArray):PxC (.sop 194 a s) (.mk 23 s pv0 [] [] [y]):=by
 intro w lo v hn;cases hn with
 | sop _ x _ _ hn =>
 have HC:=Hi hC;clear hC;obtain⟨T1,x,rfl⟩:=hn.iface;have HBB:=Hi (((Qab w (.cells xZero 33)).alloc (by simp) (.cells #[.iface T1 x,.string s] 194)).alloc (by simp;omega) (.cells #[.iface T1 x] 136));have HRR:=Hi (Qaf (Qaf (Xa w (.cells xZero 33)) (.cells #[.iface T1 x,.string s] 194)) (.cells #[.iface T1 x] 136));go_enter func51,ntmps51
 go_wp2_with fail
 refine(QcC HC.out _ ((w.alloc _).alloc _) 23 _ lo _ _ _ rfl (by simp) (hn.later HBB.out)).mono ?_;rintro e w2⟨B2,ds,hpx,rfl⟩;obtain⟨op',s',kd,nn,vs',vt,pk,nk,ck,pp,np,cp,pl,nl,cl,rfl⟩:=hpx.get;have HPX:=Hi hpx;clear hpx;have HR2:=Hi ((B2.block _ (Qad HRR.out)).trans HRR.out);have HB2:=Hi (HBB.out.trans (B2.mono HBB.out.size));clear B2;obtain⟨e0,e1,e2,e3,e4,e5,e6,e7,e8,e9,e10,f0,f1,f2,f3,f4,f5,f6,f7,f8,f9,f10⟩:=Qa6 HR2.out
 go_wp2_with fail
 obtain⟨w9,hw9,h9,hE⟩:=Qch HR2.out rfl (.int .i64 op') (.string s') (.int .i64 kd) (.int .i64 nn) (.string vs') (.string vt) (.slice none 0 0) (.slice none 0 0) (.slice pk nk ck) (.slice pp np cp) (.slice pl nl cl);rw[hw9];clear hw9;refine Qbp _ 2 3 (by kernel_rfl) rfl rfl rfl h9 rfl ?_;exact QbV HPX.out HB2.out hE (by simp) (by simp<;>omega)
theorem px_s202{a:Ex}{y:PEx}(hC:PxC a y)(s:ByteArray):PxC (.sop 202 a s) (.mk 16 s pv0 [] [] [y]):=by
 intro w lo v hn;cases hn with
 | sop _ x _ _ hn =>
 have HC:=Hi hC;clear hC;obtain⟨T1,x,rfl⟩:=hn.iface;have HBB:=Hi (((Qab w (.cells xZero 33)).alloc (by simp) (.cells #[.iface T1 x,.string s] 202)).alloc (by simp;omega) (.cells #[.iface T1 x] 136));have HRR:=Hi (Qaf (Qaf (Xa w (.cells xZero 33)) (.cells #[.iface T1 x,.string s] 202)) (.cells #[.iface T1 x] 136));go_enter func51,ntmps51
 go_wp2_with fail
 refine(QcC HC.out _ ((w.alloc _).alloc _) 16 _ lo _ _ _ rfl (by simp) (hn.later HBB.out)).mono ?_;rintro e w2⟨B2,ds,hpx,rfl⟩;obtain⟨op',s',kd,nn,vs',vt,pk,nk,ck,pp,np,cp,pl,nl,cl,rfl⟩:=hpx.get;have HPX:=Hi hpx;clear hpx;have HR2:=Hi ((B2.block _ (Qad HRR.out)).trans HRR.out);have HB2:=Hi (HBB.out.trans (B2.mono HBB.out.size));clear B2;obtain⟨e0,e1,e2,e3,e4,e5,e6,e7,e8,e9,e10,f0,f1,f2,f3,f4,f5,f6,f7,f8,f9,f10⟩:=Qa6 HR2.out
 go_wp2_with fail
 obtain⟨w9,hw9,h9,hE⟩:=Qch HR2.out rfl (.int .i64 op') (.string s') (.int .i64 kd) (.int .i64 nn) (.string vs') (.string vt) (.slice none 0 0) (.slice none 0 0) (.slice pk nk ck) (.slice pp np cp) (.slice pl nl cl);rw[hw9];clear hw9;refine Qbp _ 2 3 (by kernel_rfl) rfl rfl rfl h9 rfl ?_;exact QbV HPX.out HB2.out hE (by simp) (by simp<;>omega)
theorem px_u208{a:Ex}{y:PEx}(hC:PxC a y):PxC (.una 208 a) (.mk 21 ⟨#[]⟩ pv0 [] [] [y]):=by
 intro w lo v hn;cases hn with
 | una _ x _ hn =>
 have HC:=Hi hC;clear hC;obtain⟨T1,x,rfl⟩:=hn.iface;have HBB:=Hi (((Qab w (.cells xZero 33)).alloc (by simp) (.cells #[.iface T1 x] 208)).alloc (by simp;omega) (.cells #[.iface T1 x] 136));have HRR:=Hi (Qaf (Qaf (Xa w (.cells xZero 33)) (.cells #[.iface T1 x] 208)) (.cells #[.iface T1 x] 136));go_enter func51,ntmps51
 go_wp2_with fail
 refine(QcC HC.out _ ((w.alloc _).alloc _) 21 _ lo _ _ _ rfl (by simp) (hn.later HBB.out)).mono ?_;rintro e w2⟨B2,ds,hpx,rfl⟩;obtain⟨op',s',kd,nn,vs',vt,pk,nk,ck,pp,np,cp,pl,nl,cl,rfl⟩:=hpx.get;have HPX:=Hi hpx;clear hpx;have HR2:=Hi ((B2.block _ (Qad HRR.out)).trans HRR.out);have HB2:=Hi (HBB.out.trans (B2.mono HBB.out.size));clear B2;obtain⟨e0,e1,e2,e3,e4,e5,e6,e7,e8,e9,e10,f0,f1,f2,f3,f4,f5,f6,f7,f8,f9,f10⟩:=Qa6 HR2.out
 go_wp2_with fail
 obtain⟨w9,hw9,h9,hE⟩:=Qch HR2.out rfl (.int .i64 op') (.string s') (.int .i64 kd) (.int .i64 nn) (.string vs') (.string vt) (.slice none 0 0) (.slice none 0 0) (.slice pk nk ck) (.slice pp np cp) (.slice pl nl cl);rw[hw9];clear hw9;refine Qbp _ 2 3 (by kernel_rfl) rfl rfl rfl h9 rfl ?_;exact QbV HPX.out HB2.out hE (by simp) (by simp<;>omega)
theorem px_u209{a:Ex}{y:PEx}(hC:PxC a y):PxC (.una 209 a) (.mk 22 ⟨#[]⟩ pv0 [] [] [y]):=by
 intro w lo v hn;cases hn with
 | una _ x _ hn =>
 have HC:=Hi hC;clear hC;obtain⟨T1,x,rfl⟩:=hn.iface;have HBB:=Hi (((Qab w (.cells xZero 33)).alloc (by simp) (.cells #[.iface T1 x] 209)).alloc (by simp;omega) (.cells #[.iface T1 x] 136));have HRR:=Hi (Qaf (Qaf (Xa w (.cells xZero 33)) (.cells #[.iface T1 x] 209)) (.cells #[.iface T1 x] 136));go_enter func51,ntmps51
 go_wp2_with fail
 refine(QcC HC.out _ ((w.alloc _).alloc _) 22 _ lo _ _ _ rfl (by simp) (hn.later HBB.out)).mono ?_;rintro e w2⟨B2,ds,hpx,rfl⟩;obtain⟨op',s',kd,nn,vs',vt,pk,nk,ck,pp,np,cp,pl,nl,cl,rfl⟩:=hpx.get;have HPX:=Hi hpx;clear hpx;have HR2:=Hi ((B2.block _ (Qad HRR.out)).trans HRR.out);have HB2:=Hi (HBB.out.trans (B2.mono HBB.out.size));clear B2;obtain⟨e0,e1,e2,e3,e4,e5,e6,e7,e8,e9,e10,f0,f1,f2,f3,f4,f5,f6,f7,f8,f9,f10⟩:=Qa6 HR2.out
 go_wp2_with fail
 obtain⟨w9,hw9,h9,hE⟩:=Qch HR2.out rfl (.int .i64 op') (.string s') (.int .i64 kd) (.int .i64 nn) (.string vs') (.string vt) (.slice none 0 0) (.slice none 0 0) (.slice pk nk ck) (.slice pp np cp) (.slice pl nl cl);rw[hw9];clear hw9;refine Qbp _ 2 3 (by kernel_rfl) rfl rfl rfl h9 rfl ?_;exact QbV HPX.out HB2.out hE (by simp) (by simp<;>omega)
theorem px_u210{a:Ex}{y:PEx}(hC:PxC a y):PxC (.una 210 a) (.mk 29 ⟨#[]⟩ pv0 [] [] [y]):=by
 intro w lo v hn;cases hn with
 | una _ x _ hn =>
 have HC:=Hi hC;clear hC;obtain⟨T1,x,rfl⟩:=hn.iface;have HBB:=Hi (((Qab w (.cells xZero 33)).alloc (by simp) (.cells #[.iface T1 x] 210)).alloc (by simp;omega) (.cells #[.iface T1 x] 136));have HRR:=Hi (Qaf (Qaf (Xa w (.cells xZero 33)) (.cells #[.iface T1 x] 210)) (.cells #[.iface T1 x] 136));go_enter func51,ntmps51
 go_wp2_with fail
 refine(QcC HC.out _ ((w.alloc _).alloc _) 29 _ lo _ _ _ rfl (by simp) (hn.later HBB.out)).mono ?_;rintro e w2⟨B2,ds,hpx,rfl⟩;obtain⟨op',s',kd,nn,vs',vt,pk,nk,ck,pp,np,cp,pl,nl,cl,rfl⟩:=hpx.get;have HPX:=Hi hpx;clear hpx;have HR2:=Hi ((B2.block _ (Qad HRR.out)).trans HRR.out);have HB2:=Hi (HBB.out.trans (B2.mono HBB.out.size));clear B2;obtain⟨e0,e1,e2,e3,e4,e5,e6,e7,e8,e9,e10,f0,f1,f2,f3,f4,f5,f6,f7,f8,f9,f10⟩:=Qa6 HR2.out
 go_wp2_with fail
 obtain⟨w9,hw9,h9,hE⟩:=Qch HR2.out rfl (.int .i64 op') (.string s') (.int .i64 kd) (.int .i64 nn) (.string vs') (.string vt) (.slice none 0 0) (.slice none 0 0) (.slice pk nk ck) (.slice pp np cp) (.slice pl nl cl);rw[hw9];clear hw9;refine Qbp _ 2 3 (by kernel_rfl) rfl rfl rfl h9 rfl ?_;exact QbV HPX.out HB2.out hE (by simp) (by simp<;>omega)
theorem px_isin{a b:Ex}{y z:PEx}(hC:PxC a y)(hD:PxC b z)(s:ByteArray):PxC (.isIn a s b) (.mk 17 s pv0 [] [] [y,z]):=by
 intro w lo v hn;cases hn with
 | isIn x x2 _ _ _ hn hm =>
 have HC:=Hi (Xc hC hD);clear hC hD;obtain⟨T1,x,rfl⟩:=hn.iface;obtain⟨T2,x2,rfl⟩:=hm.iface;have HBB:=Hi (((Qab w (.cells xZero 33)).alloc (by simp) (.cells #[.iface T1 x,.string s,.iface T2 x2] 204)).alloc (by simp;omega) (.cells #[.iface T1 x,.iface T2 x2] 136));have HRR:=Hi (Qaf (Qaf (Xa w (.cells xZero 33)) (.cells #[.iface T1 x,.string s,.iface T2 x2] 204)) (.cells #[.iface T1 x,.iface T2 x2] 136))
 go_enter func51,ntmps51
 go_wp2_with fail
 refine(Qh6 HC.out.1 HC.out.2 _ ((w.alloc _).alloc _) 17 _ lo _ _ _ _ rfl (by simp) (hn.later HBB.out) (hm.later HBB.out)).mono ?_;rintro e w2⟨B2,ds,hpx,rfl⟩;obtain⟨op',s',kd,nn,vs',vt,pk,nk,ck,pp,np,cp,pl,nl,cl,rfl⟩:=hpx.get;have HPX:=Hi hpx;clear hpx;have HR2:=Hi ((B2.block _ (Qad HRR.out)).trans HRR.out);have HB2:=Hi (HBB.out.trans (B2.mono HBB.out.size));clear B2;obtain⟨e0,e1,e2,e3,e4,e5,e6,e7,e8,e9,e10,f0,f1,f2,f3,f4,f5,f6,f7,f8,f9,f10⟩:=Qa6 HR2.out
 go_wp2_with fail
 obtain⟨w9,hw9,h9,hE⟩:=Qch HR2.out rfl (.int .i64 op') (.string s') (.int .i64 kd) (.int .i64 nn) (.string vs') (.string vt) (.slice none 0 0) (.slice none 0 0) (.slice pk nk ck) (.slice pp np cp) (.slice pl nl cl);rw[hw9];clear hw9;refine Qbp _ 2 3 (by kernel_rfl) rfl rfl rfl h9 rfl ?_;exact QbV HPX.out HB2.out hE (by simp) (by simp<;>omega)
theorem px_ite{a b c:Ex}{y z u:PEx}(hC:PxC a y)(hD:PxC b z)(hE:PxC c u):PxC (.ite a b c) (.mk 3 ⟨#[]⟩ pv0 [] [] [y,z,u]):=by
 intro w lo v hn;cases hn with
 | ite x x2 x3 _ _ _ hn hm ho =>
 have HC:=Hi (Xc hC (Xc hD hE));clear hC hD hE;obtain⟨T1,x,rfl⟩:=hn.iface;obtain⟨T2,x2,rfl⟩:=hm.iface;obtain⟨T3,x3,rfl⟩:=ho.iface;have HBB:=Hi (((Qab w (.cells xZero 33)).alloc (by simp) (.cells #[.iface T1 x,.iface T2 x2,.iface T3 x3] 188)).alloc (by simp;omega) (.cells #[.iface T1 x,.iface T2 x2,.iface T3 x3] 136));have HRR:=Hi (Qaf (Qaf (Xa w (.cells xZero 33)) (.cells #[.iface T1 x,.iface T2 x2,.iface T3 x3] 188)) (.cells #[.iface T1 x,.iface T2 x2,.iface T3 x3] 136))
 go_enter func51,ntmps51
 go_wp2_with fail
 refine(many3_c HC.out.1 HC.out.2.1 HC.out.2.2 _ ((w.alloc _).alloc _) 3 _ lo _ _ _ _ _ rfl (by simp) (hn.later HBB.out) (hm.later HBB.out) (ho.later HBB.out)).mono ?_;rintro e w2⟨B2,ds,hpx,rfl⟩;obtain⟨op',s',kd,nn,vs',vt,pk,nk,ck,pp,np,cp,pl,nl,cl,rfl⟩:=hpx.get;have HPX:=Hi hpx;clear hpx;have HR2:=Hi ((B2.block _ (Qad HRR.out)).trans HRR.out);have HB2:=Hi (HBB.out.trans (B2.mono HBB.out.size));clear B2
 obtain⟨e0,e1,e2,e3,e4,e5,e6,e7,e8,e9,e10,f0,f1,f2,f3,f4,f5,f6,f7,f8,f9,f10⟩:=Qa6 HR2.out
 go_wp2_with fail
 obtain⟨w9,hw9,h9,hE⟩:=Qch HR2.out rfl (.int .i64 op') (.string s') (.int .i64 kd) (.int .i64 nn) (.string vs') (.string vt) (.slice none 0 0) (.slice none 0 0) (.slice pk nk ck) (.slice pp np cp) (.slice pl nl cl);rw[hw9];clear hw9;refine Qbp _ 2 3 (by kernel_rfl) rfl rfl rfl h9 rfl ?_;exact QbV HPX.out HB2.out hE (by simp) (by simp<;>omega)
theorem px_call{l:List Ex}{ys:List PEx}(hlen:ys.length=l.length)(hC:∀(i:Nat)(a:Ex)(y:PEx),l[i]? =some a→ys[i]? =some y→PxC a y)(s:ByteArray)(hm:l.length≤1000000):PxC (.call s l) (.mk 25 s pv0 [] [] ys):=by
 intro w lo v hn;cases hn with
 | call s _ p c vs hr hn =>
 have HC:=Hi (Xc hlen hC);clear hC hlen;have HBB:=Hi (((Qab w (.cells xZero 33)).alloc (by simp) (.cells #[.string s,.slice p l.length c] 214)));have HRR:=Hi (Qaf (Xa w (.cells xZero 33)) (.cells #[.string s,.slice p l.length c] 214));have HRW:=Hi (hr.ext (S:=fun _=>False) (.inl rfl) (Ext.below HBB.out) (fun _ h=>h.elim));have HNN:Hid (∀(i:Nat)(a:Ex),l[i]? =some a→NodeIs _ lo (vs i) a):=Hi (fun i a h=>(hn i a h).later HBB.out)
 clear hr hn;go_enter func51,ntmps51
 go_wp2_with fail
 refine(Qe6 HC.out.1 HC.out.2 _ 25 _ lo p c vs HRW.out HNN.out hm).mono ?_;rintro e w2⟨B2,ds,hpx,rfl⟩;obtain⟨op',s',kd,nn,vs',vt,pk,nk,ck,pp,np,cp,pl,nl,cl,rfl⟩:=hpx.get;have HPX:=Hi hpx;clear hpx;have HR2:=Hi ((B2.block _ (Qad HRR.out)).trans HRR.out);have HB2:=Hi (HBB.out.trans (B2.mono HBB.out.size));clear B2;obtain⟨e0,e1,e2,e3,e4,e5,e6,e7,e8,e9,e10,f0,f1,f2,f3,f4,f5,f6,f7,f8,f9,f10⟩:=Qa6 HR2.out
 go_wp2_with fail
 obtain⟨w9,hw9,h9,hE⟩:=Qch HR2.out rfl (.int .i64 op') (.string s') (.int .i64 kd) (.int .i64 nn) (.string vs') (.string vt) (.slice none 0 0) (.slice none 0 0) (.slice pk nk ck) (.slice pp np cp) (.slice pl nl cl);rw[hw9];clear hw9;refine Qbp _ 2 3 (by kernel_rfl) rfl rfl rfl h9 rfl ?_;exact QbV HPX.out HB2.out hE (by simp) (by simp<;>omega)
theorem px_set{l:List Ex}{ys:List PEx}(hlen:ys.length=l.length)(hC:∀(i:Nat)(a:Ex)(y:PEx),l[i]? =some a→ys[i]? =some y→PxC a y)(hm:l.length≤1000000):PxC (.set l) (.mk 31 ⟨#[]⟩ pv0 [] [] ys):=by
 intro w lo v hn;cases hn with
 | set _ p c vs hr hn =>
 have HC:=Hi (Xc hlen hC);clear hC hlen;have HBB:=Hi (((Qab w (.cells xZero 33)).alloc (by simp) (.cells #[.slice p l.length c] 216)));have HRR:=Hi (Qaf (Xa w (.cells xZero 33)) (.cells #[.slice p l.length c] 216));have HRW:=Hi (hr.ext (S:=fun _=>False) (.inl rfl) (Ext.below HBB.out) (fun _ h=>h.elim));have HNN:Hid (∀(i:Nat)(a:Ex),l[i]? =some a→NodeIs _ lo (vs i) a):=Hi (fun i a h=>(hn i a h).later HBB.out)
 clear hr hn;go_enter func51,ntmps51
 go_wp2_with fail
 refine(Qe6 HC.out.1 HC.out.2 _ 31 _ lo p c vs HRW.out HNN.out hm).mono ?_;rintro e w2⟨B2,ds,hpx,rfl⟩;obtain⟨op',s',kd,nn,vs',vt,pk,nk,ck,pp,np,cp,pl,nl,cl,rfl⟩:=hpx.get;have HPX:=Hi hpx;clear hpx;have HR2:=Hi ((B2.block _ (Qad HRR.out)).trans HRR.out);have HB2:=Hi (HBB.out.trans (B2.mono HBB.out.size));clear B2;obtain⟨e0,e1,e2,e3,e4,e5,e6,e7,e8,e9,e10,f0,f1,f2,f3,f4,f5,f6,f7,f8,f9,f10⟩:=Qa6 HR2.out
 go_wp2_with fail
 obtain⟨w9,hw9,h9,hE⟩:=Qch HR2.out rfl (.int .i64 op') (.string s') (.int .i64 kd) (.int .i64 nn) (.string vs') (.string vt) (.slice none 0 0) (.slice none 0 0) (.slice pk nk ck) (.slice pp np cp) (.slice pl nl cl);rw[hw9];clear hw9;refine Qbp _ 2 3 (by kernel_rfl) rfl rfl rfl h9 rfl ?_;exact QbV HPX.out HB2.out hE (by simp) (by simp<;>omega)
theorem px_var(s:ByteArray):PxC (.var s) (.mk 2 s pv0 [] [] []):=by
 intro w lo v hn;cases hn with
 | var =>
 go_enter func51,ntmps51
 go_wp2_with fail
 refine Qbp _ 2 3 (by kernel_rfl) rfl rfl rfl (Qaf (Xa w _) _) rfl ?_;exact⟨(Qab w _).alloc (by simp) _,_,.mk 2 s pv0 [] [] [] none none none 0 0 0 [] .nil .nil .nil (fun i a h=>by simp at h),rfl⟩
theorem px_bin{a b:Ex}{y z:PEx}(hC:PxC a y)(hD:PxC b z)(op:Nat)(code:Int)(hop:(op,code)∈binT):PxC (.bin op a b) (.mk code ⟨#[]⟩ pv0 [] [] [y,z]):=by
 intro w lo v hn;cases hn with
 | bin _ x x2 _ _ hn hm =>
 have HC:=Hi (Xc hC (Xc hD hop));clear hC hD;obtain⟨T1,x,rfl⟩:=hn.iface;obtain⟨T2,x2,rfl⟩:=hm.iface;have HBB:=Hi (Qab w (.cells xZero 33));have HRR:=Hi (Xa w (.cells xZero 33));have hne:op≠182∧op≠186∧op≠188∧op≠193∧op≠194∧op≠199∧op≠202∧op≠204∧op≠208∧op≠209∧op≠210∧op≠214∧op≠216∧op≠219:=by
  simp only[binT,List.mem_cons,Prod.mk.injEq,List.not_mem_nil,or_false]at hop;omega
 obtain⟨n1,n2,n3,n4,n5,n6,n7,n8,n9,n10,n11,n12,n13,n14⟩:=hne;clear hop;go_enter func51,ntmps51
 go_wp2_with fail
 refine(bin_c HC.out.1 HC.out.2.1 _ op code lo _ _ (hn.later HBB.out) (hm.later HBB.out) HC.out.2.2).mono ?_;rintro e w2⟨B2,ds,hpx,rfl⟩;obtain⟨op',s',kd,nn,vs',vt,pk,nk,ck,pp,np,cp,pl,nl,cl,rfl⟩:=hpx.get;have HPX:=Hi hpx;clear hpx;have HR2:=Hi ((B2.block _ (Qad HRR.out)).trans HRR.out);have HB2:=Hi (HBB.out.trans (B2.mono HBB.out.size));clear B2;obtain⟨e0,e1,e2,e3,e4,e5,e6,e7,e8,e9,e10,f0,f1,f2,f3,f4,f5,f6,f7,f8,f9,f10⟩:=Qa6 HR2.out
 go_wp2_with fail
 obtain⟨w9,hw9,h9,hE⟩:=Qch HR2.out rfl (.int .i64 op') (.string s') (.int .i64 kd) (.int .i64 nn) (.string vs') (.string vt) (.slice none 0 0) (.slice none 0 0) (.slice pk nk ck) (.slice pp np cp) (.slice pl nl cl);rw[hw9];clear hw9;refine Qbp _ 2 3 (by kernel_rfl) rfl rfl rfl h9 rfl ?_;exact QbV HPX.out HB2.out hE (by simp) (by simp<;>omega)
theorem px_val(v:Vl):PxC (.val v) (.mk 1 ⟨#[]⟩ (toV v) [] [] []):=by
 intro w lo x hn;cases hn with
 | val =>
 have hvi:∃T u,v.val=.iface T u:=by cases v<;>exact⟨_,_,rfl⟩
 have HV:Hid (∀w,Calls prog 64 #[v.val] w fun e w'=>e=.returned (.tuple #[.agg (vCells (toV v).kind (toV v).n (toV v).s (toV v).t),.bool true])∧Below w.heap.size w w'):=Hi (value_c v);have HBB:=Hi ((Qab w (.cells xZero 33)).alloc (by simp) (.cells #[v.val] 182));have HRR:=Hi (Qaf (Xa w (.cells xZero 33)) (.cells #[v.val] 182));obtain⟨T,u,hvu⟩:=hvi;rw[hvu]at HV HBB HRR ⊢;clear hvu;generalize toV v=pv at *
 obtain⟨kd,nn,vs,vt⟩:=pv;go_enter func51,ntmps51
 go_wp2_with fail
 refine(HV.out _).mono ?_;rintro e w2⟨rfl,B2⟩;have HR2:=Hi (Qaf ((B2.block _ (Qad HRR.out)).trans HRR.out) (.cells (vCells kd nn vs vt) 30));have HB2:=Hi ((HBB.out.trans (B2.mono HBB.out.size)).alloc (by have:=(HBB.out.trans (B2.mono HBB.out.size)).size;omega) (.cells (vCells kd nn vs vt) 30));clear B2
 go_upto_region 5 with(fail)
 refine QaB fun w3 hw3=>?_
 have HR3:Hid (w3.heap[w.heap.size]? =some (.cells xZero 33 (0,0))):=Hi (by rw[hw3];exact HR2.out);have HB3:Hid (Below w.heap.size w w3):=Hi (by rw[hw3];exact HB2.out);have h3:w3.heap[w2.heap.size]? =some (.cells (vCells kd nn vs vt) 30 (0,0)):=by rw[hw3];exact Xa _ _
 clear hw3;have k0:w3.cell? ⟨w2.heap.size,0,none⟩=some (.int .i64 kd):=Qaa h3 rfl;have k1:w3.cell? ⟨w2.heap.size,1,none⟩=some (.int .i64 nn):=Qaa h3 rfl;have k2:w3.cell? ⟨w2.heap.size,2,none⟩=some (.string vs):=Qaa h3 rfl;have k3:w3.cell? ⟨w2.heap.size,3,none⟩=some (.string vt):=Qaa h3 rfl;have k4:w3.cell? ⟨w2.heap.size,4,none⟩=some (.slice none 0 0):=Qaa h3 rfl;have k5:w3.cell? ⟨w2.heap.size,5,none⟩=some (.slice none 0 0):=Qaa h3 rfl
 clear h3;obtain⟨e0,e1,e2,e3,e4,e5,e6,e7,e8,e9,e10,f0,f1,f2,f3,f4,f5,f6,f7,f8,f9,f10⟩:=Qa6 HR3.out
 go_wp2_with fail
 obtain⟨w9,hw9,h9,hE⟩:=Qch HR3.out rfl (.int .i64 1) (.string ⟨#[]⟩) (.int .i64 kd) (.int .i64 nn) (.string vs) (.string vt) (.slice none 0 0) (.slice none 0 0) (.slice none 0 0) (.slice none 0 0) (.slice none 0 0);rw[hw9];clear hw9;refine Qbp _ 2 3 (by kernel_rfl) rfl rfl rfl h9 rfl ?_;exact⟨((Ext.below (S:=fun _=>False) HB3.out).trans' hE (fun d hd=>by omega)).toBelow (fun _ h=>h.elim) (Xb _),_,.mk 1 ⟨#[]⟩ ⟨kd,nn,vs,vt⟩ [] [] [] none none none 0 0 0 [] .nil .nil .nil (fun i a h=>by simp at h),rfl⟩
end Go.Proofs.Pg
namespace Go.Proofs.Pg
open Go.RowKit
attribute [local go_sem] Oper.semAt_some
theorem Qcr{P:Program}(w:World)(base:Nat)(t ty e:TypeId)(i:TypeInfo)(z:Value)(size bytes:Nat)(ht:P.underlying t=some (.slice e))(hi:P.info? e=some i)(hz:i.zero=some z)
  (hsize:i.size=size)(hby:i.bytes=bytes)(hzs:z.cells.size=size)(hsz:0<size)(v:Value)(n:Nat)(xs:List Value)(hown:w.ownsRow base e size v n xs)
  (a:Addr)(m c:Nat)(news:List Value)(hl:news.length=m*size)(hnews:∀j u,news[j]? =some u→w.cell? (a.add j)=some u)(h1:∀u∈news,u.oneCell'=true)
  (h63:n+m≤maxLen)(hbytes:(n+m)*bytes≤140737488355328)(hbase:base≤w.heap.size) :
  ∃v' w',(Builtin.append_ #[t,t] ty #[v,.slice (some a) m c]).run P w=.ok v' w'∧w'.ownsRow base e size v' (n+m) (xs++news)∧w.grownBy w' v.ownBlock∧w'.ownsRow base e size v n xs∧(v'.ownBlock=v.ownBlock∨∀k,v'.ownBlock=some k→w.heap.size≤k):=by
 obtain⟨v',w',hr,h2,h3,_,h5⟩:=Qcf (P:=P) w base t ty e i z size bytes ht hi hz hsize hby hzs hsz v n xs hown a m c news hl hnews h1 h63 hbytes hbase;refine⟨v',w',hr,h2,h3,?_,h5⟩;obtain⟨hx1,hx2⟩:=hown;refine⟨hx1,?_⟩;rcases hx2 with⟨rfl,rfl⟩ | ⟨g,cap,cur,rfl,hbg,hg,hnc,hcm,hcs,htake⟩
 ·exact .inl ⟨rfl,rfl⟩
 ·by_cases hroom:n+m≤cap
  ·obtain⟨w2,hr2,k2,_⟩:=run_append_own_spare (P:=P) w base t ty e i size ht hi hsize g n cap xs ⟨hx1,.inr ⟨g,cap,cur,rfl,hbg,hg,hnc,hcm,hcs,htake⟩⟩ a m c news hl hnews h1 hroom
   rw[hr]at hr2;cases hr2;rcases k2.2 with⟨h,_⟩ | ⟨g2,cap2,cur2,hv,b1,b2,b3,b4,b5,b6⟩
   ·cases h
   ·cases hv
    refine .inr ⟨g,cap,cur2,rfl,hbg,b2,hnc,hcm,b5,?_⟩;have h7:=congrArg (List.take (n*size)) b6;rw[List.take_take,Nat.min_eq_left (Nat.mul_le_mul_right _ (Nat.le_add_right _ _)),List.take_left' hx1]at h7;exact h7
  ·subst hsize
   subst hby
   have hown:w.ownsRow base e i.size (.slice (some ⟨g,0,none⟩) n cap) n xs:=⟨hx1,.inr ⟨g,cap,cur,rfl,hbg,hg,hnc,hcm,hcs,htake⟩⟩;have holds:∀j u,xs[j]? =some u→w.cell? ((⟨g,0,none⟩:Addr).add j)=some u:=hown.cells (g:=g) rfl
   have hr2:=run_append_grow (P:=P) w t ty e i z ht hi hz ⟨g,0,none⟩ n cap xs hown.1 holds a m c news hl hnews (by omega) (by simp only[maxLen]at h63;omega) (growslice_fits (by omega) hbytes);rw[hr]at hr2;cases hr2;exact .inr ⟨g,cap,cur,rfl,hbg,Qaf (w:=w.drew) hg _,hnc,hcm,hcs,htake⟩
theorem Qe7{P:Program}{ops:Array Oper}{o:Oper}{a:Act}{w:World}{K:Act→World→Prop}{Q:Exit→Act→World→Prop}{E:Prop}{T Te:TypeId}{z:Value}{sz by':Nat}(hT:SlT P T Te z sz by')
  (hg:o.guard=none)(s xo:Operand)(ho:o.op=.call {callee:=.builtin .append,args:=#[s,xo],argTypes:=#[T,T]})(base:Nat)(v:Value)(n:Nat)(xs:List Value)(hs:a.eval s=v)(hown:w.ownsRow base Te sz v n xs)
  (blk:Nat)(news:List Value)(hl:news.length=1*sz)(hx:a.eval xo=.slice (some ⟨blk,0,none⟩) 1 1)(hc:∀j u,news[j]? =some u→w.cell? ⟨blk,j,none⟩=some u)(h1:∀v∈news,v.oneCell'=true)(hm:n+1≤maxLen)(hn:(n+1)*by'≤140737488355328)(hbase:base≤w.heap.size)
  (hK:∀v' w',w'.ownsRow base Te sz v' (n+1) (xs++news)→w.grownBy w' v.ownBlock→w'.ownsRow base Te sz v n xs→(v'.ownBlock=v.ownBlock∨∀k,v'.ownBlock=some k→w.heap.size≤k)→K (a.put o.dst v') w') :
  if Region.wanted o (yielded ops a.tmps)=true then Oper.wp P o a w K Q else E:=by
 obtain⟨i0,hi,hz0,hz1,hz2⟩:=hT.i;have hw:Region.wanted o (yielded ops a.tmps)=true:=by simp[Region.wanted,hg]
 rw[if_pos hw];obtain⟨v',w',hrun,r1,r2,r3,r4⟩:=Qcr (P:=P) w base T o.type Te i0 z sz by' hT.hu hi hz0 hz1 hz2 hT.zs hT.pos v n xs hown ⟨blk,0,none⟩ 1 1 news hl (fun j u hj=>by
  have:=hc j u hj;by_cases h0:j=0
  ·subst h0;simpa [Addr.add]using this
  ·simpa [Addr.add,h0]using this) h1 hm hn hbase
 unfold Oper.wp;simp[execOp,ho,resolve,invoke,builtin,hs,hx,hrun,Result.andThen];exact hK v' w' r1 r2 r3 r4
theorem Qbs{w:World}{B:Nat}{e:TypeId}{sz:Nat}{v:Value}{n:Nat}{xs:List Value}(h:w.ownsRow B e sz v n xs)(o:Obj):(w.alloc o).ownsRow B e sz v n xs:=Qaj (S:=fun _=>False) h (.below (Qab w o)) (fun _ k=>k.elim)
theorem QbD{w w':World}{B B':Nat}{e e':TypeId}{sz sz':Nat}{v v':Value}{n n':Nat}{xs xs':List Value}(h:w.ownsRow B e sz v n xs)(h':w.ownsRow B' e' sz' v' n' xs')(hg:w.grownBy w' v'.ownBlock)(hne:e≠e'):w'.ownsRow B e sz v n xs:=by
 obtain⟨h1,h2⟩:=h;refine⟨h1,?_⟩;rcases h2 with h2 | ⟨g,cap,cur,a,b,c,d⟩
 ·exact .inl h2
 ·exact .inr ⟨g,cap,cur,a,b,QaR c h' hg hne,d⟩
end Go.Proofs.Pg
namespace Go.Proofs.Pg
open Go.RowKit Go.Proofs.Tryz
attribute [local go_sem] Oper.semAt_some
theorem wp_nameU{P:Program}{c:Code}{Q:Exit→Act→World→Prop}{a:Act}{w:World}(h:∀x,x=w→c.wp P Q a x):c.wp P Q a w:=h w rfl
theorem QcW{w:World}{d:Nat}{x:Option Obj}(h:w.heap[d]? =x):w.drew.heap[d]? =x:=h
structure ZK(w0:World)(B b:Nat)(x:Bool)(s:ByteArray)(vA vB:Value)(n:Nat)(xA xB:List Value)(w:World):Prop where
 ra:w.ownsRow B 4 1 vA n xA
 rb:w.ownsRow B 9 1 vB n xB
 rx:Below B w0 w
 rl:B≤w.heap.size
 rh:w.heap[b]? =some (.cells #[.bool x,.string s] 316 (0,0))
section
variable {w0 w:World}{B b:Nat}{x:Bool}{s:ByteArray}{vA vB:Value}{n:Nat}{xA xB:List Value}
theorem ZK.drew(h:ZK w0 B b x s vA vB n xA xB w):ZK w0 B b x s vA vB n xA xB w.drew:=⟨h.ra,h.rb,⟨h.rx.os,h.rx.tape,h.rx.output,h.rx.size,h.rx.block⟩,h.rl,h.rh⟩
theorem ZK.alloc(h:ZK w0 B b x s vA vB n xA xB w)(o:Obj):ZK w0 B b x s vA vB n xA xB (w.alloc o):=⟨Qbs h.ra o,Qbs h.rb o,h.rx.alloc h.rl o,by have:=h.rl;simp;omega,Qaf h.rh o⟩
theorem ZK.all(h:ZK w0 B b x s vA vB n xA xB w):w.cell? ⟨b,0,none⟩=some (.bool x)∧w.cell? ⟨b,1,none⟩=some (.string s)∧ZK w0 B b x s vA vB n xA xB w:=⟨Qaa h.rh rfl,Qaa h.rh rfl,h⟩
theorem Qb7{B:Nat}{w0 w w':World}{e:TypeId}{sz:Nat}{v:Value}{n:Nat}{xs:List Value}(h:Below B w0 w)(hl:B≤w0.heap.size)(ho:w.ownsRow B e sz v n xs)(hg:w.grownBy w' v.ownBlock):Below B w0 w' :=
 h.trans ⟨hg.os,hg.tape,hg.output,hg.size,fun d hd=>hg.block d (Nat.lt_of_lt_of_le hd (Xe hl h.size)) (fun q=>by have:=(Qa5 ho q.symm).1;omega)⟩
theorem ZK.growA{w':World}(h:ZK w0 B b x s vA vB n xA xB w)(hl:B≤w0.heap.size)(hg:w.grownBy w' vA.ownBlock)(ho:w'.ownsRow B 4 1 vA n xA):ZK w0 B b x s vA vB n xA xB w' :=
 ⟨ho,QbD h.rb h.ra hg (by decide),Qb7 h.rx hl h.ra hg,Xe h.rl hg.size,QaR h.rh h.ra hg (by decide)⟩
theorem ZK.growB{w':World}(h:ZK w0 B b x s vA vB n xA xB w)(hl:B≤w0.heap.size)(hg:w.grownBy w' vB.ownBlock)(ho:w'.ownsRow B 9 1 vB n xB):ZK w0 B b x s vA vB n xA xB w' :=
 ⟨QbD h.ra h.rb hg (by decide),ho,Qb7 h.rx hl h.rb hg,Xe h.rl hg.size,QaR h.rh h.rb hg (by decide)⟩
theorem ZK.keep9{w':World}(h:ZK w0 B b x s vA vB n xA xB w)(hg:w.grownBy w' vA.ownBlock)(d:Nat)(c:Array Value)(fr:Nat×Nat)(hd:w.heap[d]? =some (.cells c 9 fr)):w'.heap[d]? =some (.cells c 9 fr):=QaR hd h.ra hg (by decide)
theorem ZK.keep4{w':World}(h:ZK w0 B b x s vA vB n xA xB w)(hg:w.grownBy w' vB.ownBlock)(v:Value)(n:Nat)(xs:List Value)(hd:w.ownsRow B 4 1 v n xs):w'.ownsRow B 4 1 v n xs:=QbD hd h.rb hg (by decide)
end
def ZzRel(w0:World)(l:List (Bool×ByteArray))(s2 s3 s9:Value)(wr:World):Prop :=
 ∃i,s9=.int .i64 ((i:Nat):Int)∧i≤l.length∧wr.ownsRow (w0.heap.size+1) 4 1 s2 i ((l.take i).map fun p=>.bool p.1)∧wr.ownsRow (w0.heap.size+1) 9 1 s3 i ((l.take i).map fun p=>.string p.2)∧Below w0.heap.size w0 wr∧w0.heap.size+1≤wr.heap.size
theorem zz_c(w:World)(lo:Nat)(p:Option Addr)(c:Nat)(l:List (Bool×ByteArray))(hr:Row2At w lo 316 p l.length (fun i=>.bool (l.getD i (false,⟨#[]⟩)).1) (fun i=>.string (l.getD i (false,⟨#[]⟩)).2))(hn:l.length≤10000000) :
  Calls prog 89 #[.agg #[.slice p l.length c]] w fun e w'=>Below w.heap.size w w'∧∃v1 v2,e=.returned (.tuple #[v1,v2])∧w'.ownsRow w.heap.size 4 1 v1 l.length (l.map fun p=>.bool p.1)∧w'.ownsRow w.heap.size 9 1 v2 l.length (l.map fun p=>.string p.2):=by
 have HRW:=Hi hr;clear hr;go_enter func89,ntmps89
 go_upto_region 2 with(fail)
 obtain⟨w1,hw⟩:∃w1,w.alloc (.cells #[.slice p l.length c] 197)=w1:=⟨_,rfl⟩
 rw[hw];have HQ:Hid (ZzRel w l (.slice none 0 0) (.slice none 0 0) (.int .i64 0) w1):=Hi ⟨0,rfl,Nat.zero_le _,⟨rfl,.inl ⟨rfl,rfl⟩⟩,⟨rfl,.inl ⟨rfl,rfl⟩⟩,by rw[←hw];exact Qab w _,by rw[←hw];simp⟩;clear hw
 go_loopw [2,3,9] (fun s2 s3 s9 wr=>ZzRel w l s2 s3 s9 wr) (fun _ _ s9 _=>l.length-(intOf s9).toNat)
 case atStart=>exact HQ.out
 case round =>
  clear HQ;obtain⟨i,rfl,hi,hA,hB,hBl,hz⟩:=hrel;obtain⟨pA,cA,rfl,_⟩:=RwU.own hA;obtain⟨pB,cB,rfl,_⟩:=RwU.own hB;have HA:=Hi (Xc hA (Xc hB hBl));clear hA hB hBl;by_cases hlt:i<l.length
  ·obtain⟨b,off,cc,fr,rfl,hlb,hcb,hcc⟩:=HRW.out.resolve_left (by omega)
   obtain⟨⟨x,s⟩,hx⟩:∃x,l[i]? =some x:=⟨l[i],by simp[hlt]⟩
   have hcc:=hcc i hlt;have hgd:l.getD i (false,⟨#[]⟩)=(x,s):=by rw[List.getD_eq_getElem?_getD,hx];rfl
   simp only[hgd]at hcc;have hwb:=(HA.out.2.2.block b (Qad hcb)).trans hcb;have c0:wr.cell? ⟨b,off+i*2,none⟩=some (.bool x):=Qaa hwb hcc.1;have c1:wr.cell? ⟨b,off+i*2+1,none⟩=some (.string s):=Qaa hwb hcc.2;have HX:=Hi hx;clear hx hgd hcc hcb hwb
   go_upto_region 4 with(fail)
   refine wp_nameU fun w3 hw3=>?_
   have HK:Hid (ZK wr (w.heap.size+1) wr.heap.size x s (.slice pA i cA) (.slice pB i cB) i ((l.take i).map fun p=>.bool p.1) ((l.take i).map fun p=>.string p.2) w3):=Hi (by
    rw[hw3];exact⟨Qbs HA.out.1 _,Qbs HA.out.2.1 _,(Qab wr _).mono hz,by simp;omega,Xa wr _⟩)
   clear hw3 c0 c1;have HK0:=HK.out.drew
   go_region_held3 (fun w'=>w'.cell? ⟨wr.heap.size,0,none⟩=some (.bool x)∧w'.cell? ⟨wr.heap.size,1,none⟩=some (.string s)∧ZK wr (w.heap.size+1) wr.heap.size x s (.slice pA i cA) (.slice pB i cB) i ((l.take i).map fun p=>.bool p.1) ((l.take i).map fun p=>.string p.2) w')
    (first | exact HK0.all | exact(ZK.alloc (And.right (And.right (by assumption))) _).all | exact hkB.all | exact hkA.all)
    ((first
     | (refine Qe7 sl254 rfl (.tmp 13) (.tmp 16) rfl (w.heap.size+1) (.slice pA i cA) i _ (by rfl) (ZK.ra (And.right (And.right (by assumption)))) _ [.bool x] rfl (by rfl) (by first | exact QaD (Qaa (Qah (by simp) _) rfl) | exact QaD (Qaa (Qaf (Qah (by simp) _) _) rfl) | exact QaD (Qaa (QcW (Qah (by simp) _)) rfl) | exact QaD (Qaa (QcW (Qaf (Qah (by simp) _) _)) rfl)) (fun v hv=>by rw[List.mem_singleton.1 hv];rfl) (by unfold maxLen;omega) (by omega) (ZK.rl (And.right (And.right (by assumption)))) ?_;intro v7 w7 hO7 hg7 ho7 hl7;have hk9:=ZK.keep9 (And.right (And.right (by assumption))) hg7;have hkA:=ZK.growA (And.right (And.right (by assumption))) hz hg7 ho7)
     | (refine Qe7 sl27 rfl (.tmp 18) (.tmp 21) rfl (w.heap.size+1) (.slice pB i cB) i _ (by rfl) (ZK.rb (And.right (And.right (by assumption)))) _ [.string s] rfl (by rfl) (by first | exact QaD (Qaa (Qah (by simp) _) rfl) | exact QaD (Qaa (Qaf (Qah (by simp) _) _) rfl) | exact QaD (Qaa (QcW (Qah (by simp) _)) rfl) | exact QaD (Qaa (QcW (Qaf (Qah (by simp) _) _)) rfl) | exact QaD (Qaa (hk9 _ _ _ (Qah (by simp) _)) rfl) | exact QaD (Qaa (hk9 _ _ _ (Qaf (Qah (by simp) _) _)) rfl) | exact QaD (Qaa (hk9 _ _ _ (QcW (Qah (by simp) _))) rfl) | exact QaD (Qaa (hk9 _ _ _ (QcW (Qaf (Qah (by simp) _) _))) rfl)) (fun v hv=>by rw[List.mem_singleton.1 hv];rfl) (by unfold maxLen;omega) (by omega) (ZK.rl (And.right (And.right (by assumption)))) ?_;intro v8 w8 hO8 hg8 ho8 hl8;have hk4:=ZK.keep4 (And.right (And.right (by assumption))) hg8;have hkB:=ZK.growB (And.right (And.right (by assumption))) hz hg8 ho8)))
   all_goals
    have hO9:w8.ownsRow (w.heap.size+1) 4 1 v7 (i+1) (((l.take i).map fun p=>Value.bool p.1)++[.bool x]):=by first | exact hk4 _ _ _ hO7 | exact hk4 _ _ _ (Qbs hO7 _) | exact hk4 _ _ _ (Qbs (w:=w7.drew) hO7 _)
    have hend:ZzRel w l v7 v8 (.int .i64 ((i:Int)+1)) w8:=by
     refine⟨i+1,by go_num,by omega,?_,?_,HA.out.2.2.trans (hkB.rx.mono (by omega)),hkB.rl⟩
     ·rw[List.take_add_one,HX.out,Option.toList,List.map_append];exact hO9
     ·rw[List.take_add_one,HX.out,Option.toList,List.map_append];exact hO8
    have HEND:=Hi hend;clear hend hO9 hO8 hO7 hkA hkB hk9 hk4 hg7 hg8 ho7 ho8 hl7 hl8;go_wp2;go_roundw
    case rel=>exact HEND.out
    case measure=>simp[intOf];omega
  ·obtain rfl:i=l.length:=by omega
   go_wp2_with fail
   go_ret2
   obtain⟨h1,h2,h3⟩:=HA.out;rw[List.take_of_length_le (Xb _)]at h1 h2;exact⟨h3,_,_,rfl,Qcq h1 (by omega),Qcq h2 (by omega)⟩
def QaN(l:List (Bool×ByteArray)):List ByteArray:=(match l with
 | []=>[]
 | p::_=>if p.1=true then [⟨#[]⟩]else [])++l.map (·.2)
theorem Qfg{l:List (Bool×ByteArray)}{i:Nat}{x:Bool×ByteArray}(h:l[i]? =some x)(h0:0<i):QaN (l.take (i+1))=QaN (l.take i)++[x.2]:=by
 cases l with
 | nil=>simp at h
 | cons p l =>
  cases i with
  | zero=>omega
  | succ i =>
   simp only[List.take_succ_cons,QaN,List.map_cons,List.append_assoc,List.cons_append]
   congr 2
   rw[List.take_add_one,show l[i]? =some x by simpa using h];simp
theorem Qgh{l:List (Bool×ByteArray)}{x:Bool×ByteArray}(h:l[0]? =some x):QaN (l.take 1)=(if x.1=true then [⟨#[]⟩]else [])++[x.2]:=by
 cases l with
 | nil=>simp at h
 | cons p l=>simp at h;subst h;simp[QaN]
def Qh8(w0:World)(W B:Nat)(l:List (Bool×ByteArray))(s5 s15:Value)(wr:World):Prop :=
 ∃i,s15=.int .i64 ((i:Nat):Int)∧i≤l.length∧wr.ownsRow B 9 1 s5 (QaN (l.take i)).length ((QaN (l.take i)).map .string)∧Below B w0 wr∧B≤wr.heap.size∧(QaN (l.take i)).length≤i+1
theorem pieces_c(w:World)(lo:Nat)(p:Option Addr)(c:Nat)(l:List (Bool×ByteArray))(hr:Row2At w lo 316 p l.length (fun i=>.bool (l.getD i (false,⟨#[]⟩)).1) (fun i=>.string (l.getD i (false,⟨#[]⟩)).2))(hn:l.length≤10000000) :
  Calls prog 66 #[.agg #[.slice p l.length c]] w fun e w'=>Below w.heap.size w w'∧∃v,e=.returned v∧w'.ownsRow w.heap.size 9 1 v (QaN l).length ((QaN l).map .string):=by
 have HRW:=Hi hr;clear hr;go_enter func66,ntmps66
 go_wp2_with fail
 have hb0:=Qab w (.cells #[.slice p l.length c] 197);refine(zz_c _ lo p c l (HRW.out.ext (.inr (.inr rfl)) (S:=fun _=>False) (.below hb0) (fun _ h=>h.elim)) hn).mono ?_;rintro e w1⟨B1,v1,v2,rfl,hA,hB⟩;have HB0:=Hi (hb0.trans (B1.mono hb0.size));obtain⟨p1,c1,rfl,hA1⟩:=RwU.own hA;obtain⟨p2,c2,rfl,hB2⟩:=RwU.own hB;have HA1:=Hi hA1.2;have HB2:=Hi hB2.2;clear hA hB hA1 hB2 B1 hb0
 go_wp2_with fail
 have HQ:Hid (Qh8 w1 0 w1.heap.size l (.slice none 0 0) (.int .i64 0) w1):=Hi ⟨0,rfl,Nat.zero_le _,⟨rfl,.inl ⟨rfl,rfl⟩⟩,.refl _ _,Xb _,Nat.zero_le _⟩
 go_loopw [5,15] (fun s5 s15 wr=>Qh8 w1 0 w1.heap.size l s5 s15 wr) (fun _ s15 _=>l.length-(intOf s15).toNat)
 case atStart=>exact HQ.out
 case round =>
  clear HQ;obtain⟨i,rfl,hi,hO,hBl,hz,hle⟩:=hrel;have hpx:=fun x h h0=>Qfg (l:=l) (i:=i) (x:=x) h h0
  have hp0:i=0→QaN (l.take i)=[]:=fun h=>by subst h;rfl
  have hpn:i=l.length→QaN (l.take i)=QaN l:=fun h=>by rw[List.take_of_length_le (by omega)]
  generalize QaN (l.take i)=acc at *;have HPX:=Hi hpx;have HPN:=Hi hpn;clear hpx hpn;obtain⟨p5,c5,rfl,_⟩:=RwU.own hO;have HO:=Hi (Xc hO hBl);clear hO hBl;by_cases hlt:i<l.length
  ·obtain⟨g1,o1,cc1,fr1,rfl,hg1,hh1,hc1⟩:=HA1.out.resolve_left (by omega)
   obtain⟨g2,o2,cc2,fr2,rfl,hg2,hh2,hc2⟩:=HB2.out.resolve_left (by omega);obtain⟨⟨x,s⟩,hx⟩:∃x,l[i]? =some x:=⟨l[i],by simp[hlt]⟩
   have hs2:wr.cell? ⟨g2,o2+i,none⟩=some (.string s):=Qaa ((HO.out.2.block g2 (Qad hh2)).trans hh2) ((hc2 i (by omega)).trans (by simp[hx]));have HS2:Hid (∀w',Below w1.heap.size w1 w'→w'.cell? ⟨g2,o2+i,none⟩=some (.string s)):=Hi fun w' hB'=>Qaa ((hB'.block g2 (Qad hh2)).trans hh2) ((hc2 i (by omega)).trans (by simp[hx]))
   clear hh2 hc2;by_cases h0:i=0
   ·have HP0:=Hi (hp0 h0)
    subst h0;clear hp0;rw[Nat.add_zero]at hs2;have hs1:wr.cell? ⟨g1,o1,none⟩=some (.bool x):=by
     have h:=Qaa (o:=o1+0) ((HO.out.2.block g1 (Qad hh1)).trans hh1) ((hc1 0 (by omega)).trans (show _=some (Value.bool x)by simp[hx]))
     rwa [Nat.add_zero]at h
    have HP1:=Hi (Qgh hx);clear hh1 hc1 hx;cases x with
    | true =>
     have hwz:=HO.out.2.size
     go_wp2_with(at_builtin;refine appG sl27 rfl _ _ rfl w1.heap.size _ _ _ rfl (Qbs HO.out.1 _) _ [.string ⟨#[]⟩] rfl rfl (QaD (Qaa (Xa wr _) rfl)) (fun v hv=>by rw[List.mem_singleton.1 hv];rfl) (by unfold maxLen;omega) (by omega) (by simp;omega) ?_)
     intro v8 w8 hO9 hg9 _;have HO8:=Hi (Xc hO9 (HO.out.2.trans (Qb7 ((Qab wr (.cells #[.string ⟨#[]⟩] 9)).mono (by omega)) (by omega) (Qbs HO.out.1 (.cells #[.string ⟨#[]⟩] 9)) hg9)));clear hO9 hg9 hwz;have hs28:w8.cell? ⟨g2,o2,none⟩=some (.string s):=by have:=HS2.out w8 HO8.out.2;rwa [Nat.add_zero]at this
     obtain⟨p8,c8,rfl,_⟩:=RwU.own HO8.out.1;have hwz:=HO8.out.2.size
     go_wp2_with(at_builtin;refine appG sl27 rfl _ _ rfl w1.heap.size _ _ _ rfl (Qbs HO8.out.1 _) _ [.string s] rfl rfl (QaD (Qaa (Xa w8 _) rfl)) (fun v hv=>by rw[List.mem_singleton.1 hv];rfl) (by unfold maxLen;omega) (by omega) (by simp;omega) ?_)
     intro v7 w7 hO9 hg9 _;have HO7:=Hi (Xc hO9 (HO8.out.2.trans (Qb7 ((Qab w8 (.cells #[.string s] 9)).mono (by omega)) (by omega) (Qbs HO8.out.1 (.cells #[.string s] 9)) hg9)));clear hO9 hg9 hwz;have HEND:Hid (Qh8 w1 0 w1.heap.size l v7 (.int .i64 1) w7):=Hi ⟨1,rfl,by omega,by rw[HP1.out];simpa [HP0.out]using HO7.out.1,HO7.out.2,HO7.out.2.size,by rw[HP1.out];simp⟩
     go_wp2_with fail
     go_roundw
     case rel=>exact HEND.out
     case measure=>simp[intOf];omega
    | false =>
     have hwz:=HO.out.2.size
     go_wp2_with(at_builtin;refine appG sl27 rfl _ _ rfl w1.heap.size _ _ _ rfl (Qbs HO.out.1 _) _ [.string s] rfl rfl (QaD (Qaa (Xa wr _) rfl)) (fun v hv=>by rw[List.mem_singleton.1 hv];rfl) (by unfold maxLen;omega) (by omega) (by simp;omega) ?_)
     intro v7 w7 hO9 hg9 _;have HO7:=Hi (Xc hO9 (HO.out.2.trans (Qb7 ((Qab wr (.cells #[.string s] 9)).mono (by omega)) (by omega) (Qbs HO.out.1 (.cells #[.string s] 9)) hg9)));clear hO9 hg9 hwz;have HEND:Hid (Qh8 w1 0 w1.heap.size l v7 (.int .i64 1) w7):=Hi ⟨1,rfl,by omega,by rw[HP1.out];simpa [HP0.out]using HO7.out.1,HO7.out.2,HO7.out.2.size,by rw[HP1.out];simp⟩
     go_wp2_with fail
     go_roundw
     case rel=>exact HEND.out
     case measure=>simp[intOf];omega
   ·have hip:0<i:=by omega
    have e0:((i:Int)==0)=false:=by simp;exact h0
    have HP1:=Hi (HPX.out _ hx hip);clear hh1 hc1 hx h0 hp0;have hwz:=HO.out.2.size
    go_wp2_with(at_builtin;refine appG sl27 rfl _ _ rfl w1.heap.size _ _ _ rfl (Qbs HO.out.1 _) _ [.string s] rfl rfl (QaD (Qaa (Xa wr _) rfl)) (fun v hv=>by rw[List.mem_singleton.1 hv];rfl) (by unfold maxLen;omega) (by omega) (by simp;omega) ?_)
    intro v7 w7 hO9 hg9 _;have HO7:=Hi (Xc hO9 (HO.out.2.trans (Qb7 ((Qab wr (.cells #[.string s] 9)).mono (by omega)) (by omega) (Qbs HO.out.1 (.cells #[.string s] 9)) hg9)));clear hO9 hg9 hwz;have HEND:Hid (Qh8 w1 0 w1.heap.size l v7 (.int .i64 ((i:Int)+1)) w7):=Hi ⟨i+1,by go_num,by omega,by rw[HP1.out];simpa [Nat.add_assoc]using HO7.out.1,HO7.out.2,HO7.out.2.size,by rw[HP1.out];simp;omega⟩
    go_wp2_with fail
    go_roundw
    case rel=>exact HEND.out
    case measure=>simp[intOf];omega
  ·obtain rfl:i=l.length:=by omega
   have h1:=HO.out.1;have HE:Hid (wr.ownsRow w1.heap.size 9 1 (.slice p5 acc.length c5) (QaN l).length ((QaN l).map .string)):=Hi (by rw[←HPN.out rfl];exact h1);clear h1 hp0
   go_wp2_with fail
   go_ret;exact⟨HB0.out.trans (HO.out.2.mono HB0.out.size),_,rfl,Qcq HE.out HB0.out.size⟩
theorem px_like{a:Ex}{y:PEx}(hC:PxC a y)(l:List (Bool×ByteArray))(hm:l.length≤10000000):PxC (.like a l) (.mk 15 ⟨#[]⟩ pv0 [] (QaN l) [y]):=by
 intro w lo v hn;cases hn with
 | like x _ _ p c hn hr =>
 have HC:=Hi hC;clear hC;obtain⟨T1,x,rfl⟩:=hn.iface;have HBB:=Hi (((Qab w (.cells xZero 33)).alloc (by simp) (.cells #[.iface T1 x,.slice p l.length c] 199)).alloc (by simp;omega) (.cells #[.iface T1 x] 136));have HRR:=Hi (Qaf (Qaf (Xa w (.cells xZero 33)) (.cells #[.iface T1 x,.slice p l.length c] 199)) (.cells #[.iface T1 x] 136));have HLL:Hid ((((w.alloc (.cells xZero 33)).alloc (.cells #[.iface T1 x,.slice p l.length c] 199)).alloc (.cells #[.iface T1 x] 136)).heap[w.heap.size+1]? =some (.cells #[.iface T1 x,.slice p l.length c] 199 (0,0))):=Hi (Qaf (Qah (by simp) _) _)
 have HRW:=Hi (hr.ext (S:=fun _=>False) (.inr (.inr rfl)) (Ext.below HBB.out) (fun _ h=>h.elim));clear hr;go_enter func51,ntmps51
 go_wp2_with fail
 refine(QcC HC.out _ ((w.alloc _).alloc _) 15 _ lo _ _ _ rfl (by simp) (hn.later HBB.out)).mono ?_;rintro e w2⟨B2,ds,hpx,rfl⟩;have HRW2:=Hi (HRW.out.ext (S:=fun _=>False) (.inr (.inr rfl)) (Ext.below B2) (fun _ h=>h.elim));cases hpx with
 | mk _ _ _ _ _ _ pk pp pl ck cp cl cs' hk hp hl hch =>
 have HPX:=Hi (Xc hk (Xc hl hch));clear hk hp hl hch;have HR2:=Hi ((B2.block _ (Qad HRR.out)).trans HRR.out);have HL2:=Hi ((B2.block _ (Qad HLL.out)).trans HLL.out);have HB2:=Hi (HBB.out.trans (B2.mono HBB.out.size));have hz2:w.heap.size+3≤w2.heap.size:=by have:=B2.size;simp at this;omega
 clear B2 HRW HBB HRR HLL
 go_upto_region 21 with(fail)
 refine QaB fun w3 hw3=>?_
 have B3:Below w2.heap.size w2 w3:=by rw[hw3];exact Qab w2 _
 have h3:w3.heap[w2.heap.size]? =some (.cells (xCells 15 ⟨#[]⟩ 0 0 ⟨#[]⟩ ⟨#[]⟩ (.slice pk 0 ck) (.slice pp 0 cp) (.slice pl 1 cl)) 33 (0,0)):=by rw[hw3];exact Xa _ _
 have hz3:w3.heap.size=w2.heap.size+1:=by rw[hw3];simp
 clear hw3;have cp1:w3.cell? ⟨w.heap.size+1,1,none⟩=some (.slice p l.length c):=Qaa ((B3.block _ (Qad HL2.out)).trans HL2.out) rfl;have HRW3:=Hi (HRW2.out.ext (S:=fun _=>False) (.inr (.inr rfl)) (Ext.below B3) (fun _ h=>h.elim));have HB3:=Hi (Xc B3 h3);clear B3 h3
 go_wp2_with fail
 refine(pieces_c w3 lo p c l HRW3.out (by omega)).mono ?_;rintro e w4⟨B4,v4,rfl,hO4⟩;have h4:=(B4.block _ (Qad HB3.out.2)).trans HB3.out.2;have B24:=HB3.out.1.trans (B4.mono HB3.out.1.size);obtain⟨p4,c4,rfl,hrow⟩:=RwU.own hO4;have hc9:w4.cell? ⟨w2.heap.size,9,none⟩=some (.slice pp 0 cp):=Qaa h4 rfl;have hf9:w4.frozen? ⟨w2.heap.size,9,none⟩=false:=Qae h4 9;have h5:=Qac (o:=9) h4 (.slice p4 (QaN l).length c4)
 have E5:Ext (·=w2.heap.size) w4 (w4.setCell ⟨w2.heap.size,9,none⟩ (.slice p4 (QaN l).length c4)):=(Ext.refl (·=w2.heap.size) w4).set (p:=⟨w2.heap.size,9,none⟩) (.inl rfl) _;have H5:=Hi (Xc h5 (Xc E5 (Xc B24 hrow)));have hz4:=B24.size;have hz34:=B4.size;clear h4 B4 B24 hO4 hrow h5 E5
 go_upto_region 22 with(fail)
 refine QaB fun w5 hw5=>?_
 rw[←hw5]at H5;clear hw5 hc9 hf9;obtain⟨h5,E5,B24,hrow⟩:=H5.out;have B25:Below w2.heap.size w2 w5:=((Ext.below (S:=fun _=>False) B24).trans' E5 (fun d hd=>by omega)).toBelow (fun _ h=>h.elim) (Xb _);have hR5:=(B25.block _ (Qad HR2.out)).trans HR2.out;have hPX5:=HPX.out;have HF:=Hi (Xc hR5 (Xc B25 (Xc hrow E5)));clear H5 E5 B24 hrow B25 hR5 hPX5;have k0:w5.cell? ⟨w2.heap.size,0,none⟩=some (.int .i64 15):=Qaa h5 rfl
 have k1:w5.cell? ⟨w2.heap.size,1,none⟩=some (.string ⟨#[]⟩):=Qaa h5 rfl;have k2:w5.cell? ⟨w2.heap.size,2,none⟩=some (.int .i64 0):=Qaa h5 rfl;have k3:w5.cell? ⟨w2.heap.size,3,none⟩=some (.int .i64 0):=Qaa h5 rfl;have k4:w5.cell? ⟨w2.heap.size,4,none⟩=some (.string ⟨#[]⟩):=Qaa h5 rfl;have k5:w5.cell? ⟨w2.heap.size,5,none⟩=some (.string ⟨#[]⟩):=Qaa h5 rfl;have k6:w5.cell? ⟨w2.heap.size,6,none⟩=some (.slice none 0 0):=Qaa h5 rfl
 have k7:w5.cell? ⟨w2.heap.size,7,none⟩=some (.slice none 0 0):=Qaa h5 rfl;have k8:w5.cell? ⟨w2.heap.size,8,none⟩=some (.slice pk 0 ck):=Qaa h5 rfl;have k9:w5.cell? ⟨w2.heap.size,9,none⟩=some (.slice p4 (QaN l).length c4):=Qaa h5 rfl;have k10:w5.cell? ⟨w2.heap.size,10,none⟩=some (.slice pl 1 cl):=Qaa h5 rfl;clear h5;obtain⟨e0,e1,e2,e3,e4,e5,e6,e7,e8,e9,e10,f0,f1,f2,f3,f4,f5,f6,f7,f8,f9,f10⟩:=Qa6 HF.out.1
 go_wp2_with fail
 obtain⟨w9,hw9,h9,hE⟩:=Qch HF.out.1 rfl (.int .i64 15) (.string ⟨#[]⟩) (.int .i64 0) (.int .i64 0) (.string ⟨#[]⟩) (.string ⟨#[]⟩) (.slice none 0 0) (.slice none 0 0) (.slice pk 0 ck) (.slice p4 (QaN l).length c4) (.slice pl 1 cl);rw[hw9];clear hw9;refine Qbp _ 2 3 (by kernel_rfl) rfl rfl rfl h9 rfl ?_;obtain⟨hR5,B25,hrow,E5⟩:=HF.out;obtain⟨hk,hl,hch⟩:=HPX.out;have hE59:Ext (fun d=>d=w.heap.size∨d=w2.heap.size) w4 w9:=(E5.mono (fun _ h=>.inr h)).trans (hE.mono (fun _ h=>.inl h))
 have hE29:Ext (·=w.heap.size) w2 w9:=(Ext.below (S:=(·=w.heap.size)) B25).trans hE;refine⟨((Ext.below (S:=fun _=>False) HB2.out).trans' hE29 (fun d hd=>by omega)).toBelow (fun _ h=>h.elim) (Xb _),_,.mk 15 ⟨#[]⟩ pv0 [] (QaN l) [y] pk p4 pl ck c4 cl cs' .nil ?_ ?_ ?_,rfl⟩
 ·exact hrow.ext hE59 (fun d hd hlt=>⟨by omega,by omega⟩)
 ·exact hl.ext hE29 (fun d hd hlt=>⟨by simp at hd;omega,by simp at hd;omega⟩)
 ·exact fun i a hi=>(hch i a hi).ext hE29 (fun d hd hlt=>⟨by simp at hd;omega,by simp at hd;omega⟩)
end Go.Proofs.Pg
namespace Go.Proofs.Pg
open Go.RowKit
section
variable {P:Program}{ops:Array Oper}{Q:Exit→Act→World→Prop}
def Qbi(ops:Array Oper):List Tmp:=ops.toList.filterMap (·.dst)
def Qcs(a:Act)(o:Oper):Value:=match o.dst with | some d=>a.tmps.getD d undef | none=>undef
structure Region.OK(ops:Array Oper)(n:Nat):Prop where
 nodup:(Qbi ops).Nodup
 small:∀d∈Qbi ops,d<n
 guard:∀o∈ops.toList,o.guard=none
 edges:∀i o,ops[i]? =some o→∀e∈o.after.toList,Region.binds .any e=true→e.on<i
structure Facts(ops:Array Oper)(a0:Act)(w0:World)(E:World→World→Prop)(Φ:Nat→Value→World→Prop)(listed:Array Bool)(a:Act)(w:World):Prop where
 ext:E w0 w
 size:a.tmps.size=a0.tmps.size
 defers:a.defers=a0.defers
 other:∀t,t∉Qbi ops→a.tmps.getD t undef=a0.tmps.getD t undef
 facts:∀j o,ops[j]? =some o→listed.getD j false=true→Φ j (Qcs a o) w
theorem QbJ(a:Act)(d:Tmp)(v:Value)(t:Tmp)(hd:d<a.tmps.size):(a.put (some d) v).tmps.getD t undef=if t=d then v else a.tmps.getD t undef:=by
 simp only[Act.put,Array.getD_eq_getD_getElem?,Array.getElem?_setIfInBounds];by_cases h:t=d
 ·subst h;simp[hd]
 ·simp[h,Ne.symm h]
theorem Qbq:∀(l:List Oper)(i j:Nat)(oi oj:Oper)(d:Tmp),(l.filterMap (·.dst)).Nodup→l[i]? =some oi→l[j]? =some oj→i≠j→oi.dst=some d→oj.dst≠some d
 | [],i,j,oi,oj,d,_,h,_,_,_=>by simp at h
 | o::l,i,j,oi,oj,d,hn,hi,hj,hij,hdi=>by
  have key:∀(k:Nat)(ok:Oper),l[k]? =some ok→ok.dst=some d→d∈l.filterMap (·.dst):=fun k ok hk hd =>
   List.mem_filterMap.2 ⟨ok,List.mem_of_getElem? hk,hd⟩
  have htail:(l.filterMap (·.dst)).Nodup:=by
   rw[List.filterMap_cons]at hn;split at hn
   ·exact hn
   ·exact(List.nodup_cons.1 hn).2
  have hhead:o.dst=some d→d∉l.filterMap (·.dst):=by
   intro hd;rw[List.filterMap_cons,hd]at hn;exact(List.nodup_cons.1 hn).1
  cases i with
  | zero =>
   cases j with
   | zero=>exact absurd rfl hij
   | succ j =>
    simp at hi hj;subst hi;intro h;exact hhead hdi (key j oj (by simpa using hj) h)
  | succ i =>
   cases j with
   | zero =>
    simp at hi hj;subst hj;intro h;exact hhead h (key i oi (by simpa using hi) hdi)
   | succ j=>exact Qbq l i j oi oj d htail (by simpa using hi) (by simpa using hj) (by omega) hdi
theorem Facts.step{a0:Act}{w0:World}{E:World→World→Prop}{Φ:Nat→Value→World→Prop}(hok:Region.OK ops a0.tmps.size)(hT:∀a b c,E a b→E b c→E a c)
  (hΦ:∀j v w w',E w w'→Φ j v w→Φ j v w'){listed:Array Bool}{a:Act}{w w':World}(h:Facts ops a0 w0 E Φ listed a w){i:Nat}{o:Oper}(hi:ops[i]? =some o)(hni:listed.getD i true=false)
  (hE:E w w')(v:Value)(hv:Φ i (match o.dst with | some _=>v | none=>undef) w'):Facts ops a0 w0 E Φ (listed.setIfInBounds i true) (a.put o.dst v) w':=by
 have hilt:i<listed.size:=by
  rcases Nat.lt_or_ge i listed.size with h | h
  ·exact h
  ·simp[Array.getD,Nat.not_lt.2 h]at hni
 have hmem:∀d,o.dst=some d→d∈Qbi ops:=fun d hd=>List.mem_filterMap.2 ⟨o,List.mem_of_getElem? (by simpa using hi),hd⟩
 have hlt:∀d,o.dst=some d→d<a.tmps.size:=fun d hd=>by rw[h.size];exact hok.small d (hmem d hd)
 refine⟨hT _ _ _ h.ext hE,?_,?_,?_,?_⟩
 ·cases hd:o.dst<;>simp[Act.put,h.size]
 ·cases hd:o.dst<;>simp[Act.put,h.defers]
 ·intro t ht
  cases hd:o.dst with
  | none=>simp only[Act.put];exact h.other t ht
  | some d =>
   have hne:t≠d:=by rintro rfl;exact ht (hmem _ hd)
   rw[QbJ _ _ _ _ (hlt d hd),if_neg hne];exact h.other t ht
 ·intro j oj hj hl
  by_cases hij:j=i
  ·subst hij
   obtain rfl:o=oj:=by rw[hi]at hj;exact Xd hj
   cases hd:o.dst with
   | none=>rw[hd]at hv;simpa [Qcs,hd,Act.put]using hv
   | some d =>
    rw[hd]at hv;have:Qcs (a.put (some d) v) o=v:=by simp only[Qcs,hd];rw[QbJ _ _ _ _ (hlt d hd),if_pos rfl]
    rw[this];exact hv
  ·have hl':listed.getD j false=true:=by rw[getD_set_ne false (Ne.symm hij)]at hl;exact hl
   have hval:Qcs (a.put o.dst v) oj=Qcs a oj:=by
    cases hd:o.dst with
    | none=>rfl
    | some d =>
     cases hdj:oj.dst with
     | none=>simp[Qcs,hdj]
     | some dj =>
      have hne:dj≠d:=by
       rintro rfl;exact Qbq ops.toList i j o oj dj hok.nodup (by simpa using hi) (by simpa using hj) (Ne.symm hij) hd hdj
      simp only[Qcs,hdj];rw[QbJ _ _ _ _ (hlt d hd),if_neg hne]
   rw[hval];exact hΦ _ _ _ _ hE (h.facts j oj hj hl')
def OpDoes(P:Program)(ops:Array Oper)(Q:Exit→Act→World→Prop)(a0:Act)(w0:World)(E:World→World→Prop)(Φ:Nat→Value→World→Prop)(i:Nat)(o:Oper):Prop :=
 ∀(a:Act)(w:World),E w0 w→(∀t,t∉Qbi ops→a.tmps.getD t undef=a0.tmps.getD t undef) →
  (∀e∈o.after.toList,Region.binds .any e=true→∀oj,ops[e.on]? =some oj→Φ e.on (Qcs a oj) w) →
  o.wp P a w (fun a' w'=>E w w'∧∃v,a'=a.put o.dst v∧Φ i (match o.dst with | some _=>v | none=>undef) w') Q
theorem Region.OK.acyc{n:Nat}(hok:Region.OK ops n)(listed:Array Bool)(hs:listed.size=ops.size)(hr:Region.ready .any ops listed=[]):listed=Array.replicate ops.size true:=by
 have hall:∀i,i<ops.size→listed.getD i false=true:=by
  intro i
  induction i using Nat.strongRecOn with
  | _ i ih =>
   intro hi;refine Classical.byContradiction fun hno=>?_
   have hmem:i∈Region.ready .any ops listed:=by
    rw[mem_ready];refine⟨?_,ops[i],Array.getElem?_eq_getElem hi,?_⟩
    ·simp only[Array.getD,hs,hi,dif_pos]at hno ⊢
     simpa using hno
    ·intro e he hb
     have hlt:=hok.edges i ops[i] (Array.getElem?_eq_getElem hi) e (by simpa using he) hb;exact ih _ hlt (by omega)
   rw[hr]at hmem;cases hmem
 apply Array.ext
 ·simp[hs]
 ·intro i h1 h2
  have:=hall i (by simpa [hs]using h1);simp only[Array.getD,h1,dif_pos]at this;simpa using this
theorem Facts.frame{a0:Act}{w0:World}{E:World→World→Prop}{Φ:Nat→Value→World→Prop}{listed:Array Bool}{a:Act}{w:World}(h:Facts ops a0 w0 E Φ listed a w) :
  ∃vs:Nat→Value,a={tmps:=a0.tmps.mapIdx fun i x=>if(Qbi ops).contains i then vs i else x,defers:=a0.defers}∧∀d,a.tmps.getD d undef=(if d∈Qbi ops then a.tmps.getD d undef else a0.tmps.getD d undef):=by
 refine⟨fun i=>a.tmps.getD i undef,?_,?_⟩
 ·obtain⟨t,ds⟩:=a
  have hs:=h.size;have hd:=h.defers;have ho:=h.other;simp only at hs hd ho ⊢;subst hd
  congr 1
  apply Array.ext
  ·simp[hs]
  ·intro i h1 h2
   simp only[Array.getElem_mapIdx];split
   ·simp[Array.getD,h1]
   ·rename_i hc
    have:=ho i (by simpa using hc);simp only[Array.getD,h1,dif_pos]at this;rw[hs]at h1;simpa [h1]using this
 ·intro d
  split
  ·rfl
  ·rename_i hd;exact h.other d hd
end
def Qd3(ops:Array Oper)(n:Nat):Bool :=
 decide (Qbi ops).Nodup&&(Qbi ops).all (fun d=>decide (d<n))&&ops.toList.all (fun o=>o.guard.isNone) &&
  ops.toList.zipIdx.all (fun x=>x.1.after.toList.all fun e=>!Region.binds .any e||decide (e.on<x.2)) &&
  ops.toList.all (fun o=>match o.op with | .defer _=>false | _=>true)
theorem Qfh{ops:Array Oper}{n:Nat}(h:Qd3 ops n=true):Region.OK ops n∧∀o∈ops.toList,∀c,o.op≠.defer c:=by
 simp only[Qd3,Bool.and_eq_true,decide_eq_true_eq,List.all_eq_true]at h;obtain⟨⟨⟨⟨h1,h2⟩,h3⟩,h4⟩,h5⟩:=h;refine⟨⟨h1,fun d hd=>by simpa using h2 d hd,fun o ho=>by simpa using h3 o ho,?_⟩,?_⟩
 ·intro i o hi e he hb
  have hm:(o,i)∈ops.toList.zipIdx:=by
   rw[List.mem_zipIdx_iff_getElem?];simpa using hi
  have:=h4 (o,i) hm e he;rw[hb]at this;simpa using this
 ·intro o ho c hc
  have:=h5 o ho;rw[hc]at this;cases this
section
variable {P:Program}{o:Oper}{a:Act}{w:World}{K:Act→World→Prop}{Q:Exit→Act→World→Prop}
theorem Qb5(x:Operand)(ho:o.op=.move x)(v:Value)(hx:a.eval x=v)(h:K (a.put o.dst v) w):o.wp P a w K Q:=by
 unfold Oper.wp;simp only[execOp,ho,hx,Sem.run_pure,Oper.upon];exact h
theorem QaO(t:TypeId)(x:Operand)(ho:o.op=.load t x)(p:Value)(hx:a.eval x=p)(v:Value)(hr:(Instr.loadAt t p).run P w=.ok v w)(h:K (a.put o.dst v) w):o.wp P a w K Q:=by
 unfold Oper.wp;simp only[execOp,ho,hx,Sem.run_bind,hr,Result.andThen_ok,Sem.run_pure,Oper.upon];exact h
theorem Qct(t:TypeId)(x y:Operand)(ho:o.op=.store t x y)(p:Value)(hx:a.eval x=p)(v:Value)(hy:a.eval y=v)(w':World)(hr:(Instr.storeAt t p v).run P w=.ok () w')(h:K (a.put o.dst undef) w'):o.wp P a w K Q:=by
 unfold Oper.wp;simp only[execOp,ho,hx,hy,Sem.run_bind,hr,Result.andThen_ok,Sem.run_pure,Oper.upon];exact h
theorem Qaw(t:TypeId)(x:Operand)(i:Nat)(ho:o.op=.fieldAddr t x i)(p:Value)(hx:a.eval x=p)(v:Value)(hr:(Instr.fieldAt t p i).run P w=.ok v w)(h:K (a.put o.dst v) w):o.wp P a w K Q:=by
 unfold Oper.wp;simp only[execOp,ho,hx,Sem.run_bind,hr,Result.andThen_ok,Sem.run_pure,Oper.upon];exact h
end
section
variable {P:Program}{ops:Array Oper}{Q:Exit→Act→World→Prop}
theorem Qh9:∀(l:List Bool)(k:Nat)(hk:k<l.length),l[k]=false→((l.set k true).filter (! ·)).length+1=(l.filter (! ·)).length:=by
 intro l
 induction l with
 | nil=>intro k hk;simp at hk
 | cons b l ihl =>
  intro k hk hb;cases k with
  | zero=>simp at hb;subst hb;simp
  | succ k =>
   simp only[List.set_cons_succ,List.filter_cons];have:=ihl k (by simpa using hk) (by simpa using hb);cases b<;>simp<;>omega
end
section
variable {P:Program}{ops:Array Oper}{Q:Exit→Act→World→Prop}
def Qfi(ops:Array Oper)(listed:Array Bool):Prop:=∀j o,ops[j]? =some o→listed.getD j false=true→∀e∈o.after.toList,Region.binds .any e=true→listed.getD e.on false=true
theorem Qf9{listed:Array Bool}{i j:Nat}(hi:i<listed.size):(listed.setIfInBounds i true).getD j false=if j=i then true else listed.getD j false:=by
 simp only[Array.getD_eq_getD_getElem?,Array.getElem?_setIfInBounds];by_cases h:j=i
 ·subst h;simp[hi]
 ·simp[h,Ne.symm h]
theorem Qgi{a0:Act}{w0:World}{E:World→World→Prop}{Φ:Nat→Value→World→Prop}(hok:Region.OK ops a0.tmps.size)(hT:∀a b c,E a b→E b c→E a c)
  (hΦ:∀j v w w',E w w'→Φ j v w→Φ j v w')(L:Nat)(hL:L<ops.size)
  (hcl:∀listed:Array Bool,Qfi ops listed→(∀o,ops[L]? =some o→∀e∈o.after.toList,Region.binds .any e=true→listed.getD e.on false=true)→∀j,j<L→listed.getD j false=true)
  (htl:∀i o,L<i→ops[i]? =some o→∃e∈o.after.toList,Region.binds .any e=true∧L≤e.on)
  (hop:∀i o,i<L→ops[i]? =some o→OpDoes P ops Q a0 w0 E Φ i o)
  (hlast:∀a w,Facts ops a0 w0 E Φ (Array.replicate L true++Array.replicate (ops.size-L) false) a w→∀k,wpAny P .any ops Q (k+(ops.size-L)) (Array.replicate L true++Array.replicate (ops.size-L) false) a w) :
  ∀(fuel:Nat)(listed:Array Bool)(a:Act)(w:World),listed.size=ops.size→(∀j,L≤j→listed.getD j false=false)→Qfi ops listed→(listed.toList.filter (! ·)).length≤fuel→Facts ops a0 w0 E Φ listed a w→wpAny P .any ops Q fuel listed a w:=by
 intro fuel
 induction fuel with
 | zero =>
  intro listed a w hs hl _ hf h;exfalso;have h0:listed.toList.filter (! ·)=[]:=List.eq_nil_of_length_eq_zero (by omega);rw[List.filter_eq_nil_iff]at h0;have hlt:L<listed.size:=by omega
  have h1:listed[L]=false:=by simpa [Array.getD,hlt]using hl L (Xb _)
  have:=h0 listed[L] (by simp);rw[h1]at this;simp at this
 | succ fuel ih =>
  intro listed a w hs hl hc hf h;by_cases hall:∀j,j<L→listed.getD j false=true
  ·have hle:listed=Array.replicate L true++Array.replicate (ops.size-L) false:=by
    apply Array.ext
    ·simp;omega
    ·intro j h1 h2
     by_cases hj:j<L
     ·have h3:=hall j hj
      have h4:listed[j]=true:=by simpa [Array.getD,h1]using h3
      rw[Array.getElem_append_left (by simpa using hj)];simp[h4]
     ·have h3:=hl j (by omega)
      have h4:listed[j]=false:=by simpa [Array.getD,h1]using h3
      rw[Array.getElem_append_right (by simpa using Nat.le_of_not_lt hj)];simp[h4]
   have hcount:ops.size-L≤fuel+1:=by
    rw[hle]at hf;simpa [List.filter_append]using hf
   subst hle;have:=hlast a w h (fuel+1-(ops.size-L))
   rwa [Nat.sub_add_cancel hcount]at this
  ·refine⟨fun hr=>?_,fun i hi=>?_⟩
   ·have:=hok.acyc listed hs hr
    exact absurd (fun j hj=>by subst this;simp[Array.getD];omega) hall
   ·rw[mem_ready]at hi
    obtain⟨hni,o,ho,hedges⟩:=hi;have hilt:i<listed.size:=by
     rcases Nat.lt_or_ge i listed.size with h | h
     ·exact h
     ·simp[Array.getD,Nat.not_lt.2 h]at hni
    have hiL:i<L:=by
     rcases Nat.lt_trichotomy i L with h1 | h1 | h1
     ·exact h1
     ·subst h1
      exact absurd (hcl listed hc (fun o' ho' e he hb=>by rw[ho]at ho';cases ho';exact hedges e (by simpa using he) hb)) hall
     ·obtain⟨e,he,hb,hle⟩:=htl i o h1 ho
      have h2:=hedges e (by simpa using he) hb;rw[hl _ hle]at h2;cases h2
    unfold wpOp;simp only[ho];have hmemo:o∈ops.toList:=List.mem_of_getElem? (by simpa using ho);have hw:Region.wanted o (yielded ops a.tmps)=true:=by simp[Region.wanted,hok.guard o hmemo]
    rw[if_pos hw];refine .inl (Oper.wp_mono ?_ (hop i o hiL ho a w h.ext h.other (fun e he hb oj hoj=>h.facts _ _ hoj (hedges e (by simpa using he) hb))));rintro a' w'⟨hE,v,rfl,hv⟩;have hfalse:listed[i]=false:=by simpa [Array.getD,hilt]using hni
    refine ih _ _ _ (by simp[hs]) ?_ ?_ ?_ (h.step hok hT hΦ ho hni hE v hv)
    ·intro j hj
     rw[Qf9 hilt,if_neg (by omega)];exact hl j hj
    ·intro j oj hoj hlj e he hb
     rw[Qf9 hilt]at hlj ⊢;by_cases hji:j=i
     ·subst hji
      rw[ho]at hoj;cases hoj;by_cases hee:e.on=j
      ·rw[if_pos hee]
      ·rw[if_neg hee];exact hedges e (by simpa using he) hb
     ·rw[if_neg hji]at hlj
      by_cases hee:e.on=i
      ·rw[if_pos hee]
      ·rw[if_neg hee];exact hc j oj hoj hlj e he hb
    ·have:=Qh9 listed.toList i (by simpa using hilt) (by simpa using hfalse)
     simp only[Array.toList_setIfInBounds];omega
theorem QbE{id:Nat}{a0:Act}{w0:World}(hm:P.follows .mixedOrders=true)(hokb:Qd3 ops a0.tmps.size=true)(L:Nat)(hL:L<ops.size)
  (hcl:∀listed:Array Bool,Qfi ops listed→(∀o,ops[L]? =some o→∀e∈o.after.toList,Region.binds .any e=true→listed.getD e.on false=true)→∀j,j<L→listed.getD j false=true)
  (htl:∀i o,L<i→ops[i]? =some o→∃e∈o.after.toList,Region.binds .any e=true∧L≤e.on)
  (E:World→World→Prop)(Φ:Nat→Value→World→Prop)(hE0:E w0 w0.drew)(hT:∀a b c,E a b→E b c→E a c)(hΦ:∀j v w w',E w w'→Φ j v w→Φ j v w')
  (hop:∀i o,i<L→ops[i]? =some o→OpDoes P ops Q a0 w0 E Φ i o)
  (hlast:∀a w,Facts ops a0 w0 E Φ (Array.replicate L true++Array.replicate (ops.size-L) false) a w→∀k,wpAny P .any ops Q (k+(ops.size-L)) (Array.replicate L true++Array.replicate (ops.size-L) false) a w):(Code.region id ops true).wp P Q a0 w0:=by
 refine wp_region_any hm (Qgi (Qfh hokb).1 hT hΦ L hL hcl htl hop hlast _ _ _ _ (by simp) ?_ ?_ (by simp) ?_)
 ·intro j hj;simp[Array.getD]
 ·intro j o _ hl;simp[Array.getD]at hl
 ·exact⟨hE0,rfl,rfl,fun _ _=>rfl,fun j o _ hl=>by simp[Array.getD]at hl⟩
theorem Qcu{k i:Nat}{listed:Array Bool}{o:Oper}{a:Act}{w:World}(hr:Region.ready .any ops listed=[i])(ho:ops[i]? =some o)(hg:o.guard=none)
  (h:o.wp P a w (wpAny P .any ops Q k (listed.setIfInBounds i true)) Q):wpAny P .any ops Q (k+1) listed a w:=by
 refine⟨fun h0=>(by rw[hr]at h0;cases h0),fun j hj=>?_⟩;rw[hr,List.mem_singleton]at hj;subst hj;unfold wpOp;simp only[ho];rw[if_pos (by simp[Region.wanted,hg])];exact .inl h
end
end Go.Proofs.Pg
namespace Go.Proofs.Pg
open Go.RowKit Go.Proofs.Tryz
attribute [local go_sem] Oper.semAt_some
theorem QdH{P:Program}(w:World)(base:Nat)(t ty e:TypeId)(i:TypeInfo)(z:Value)(size bytes:Nat)(ht:P.underlying t=some (.slice e))(hi:P.info? e=some i)(hz:i.zero=some z)
  (hsize:i.size=size)(hby:i.bytes=bytes)(hzs:z.cells.size=size)(hsz:0<size)(v:Value)(n:Nat)(xs:List Value)(hown:w.ownsRow base e size v n xs)
  (a:Addr)(m c:Nat)(news:List Value)(hl:news.length=m*size)(hnews:∀j u,news[j]? =some u→w.cell? (a.add j)=some u)(h1:∀u∈news,u.oneCell'=true)
  (h63:n+m≤maxLen)(hbytes:(n+m)*bytes≤140737488355328)(hbase:base≤w.heap.size) :
  ∃v' w',(Builtin.append_ #[t,t] ty #[v,.slice (some a) m c]).run P w=.ok v' w'∧w'.ownsRow base e size v' (n+m) (xs++news)∧w.grownBy w' v.ownBlock∧w'.ownsRow base e size v n xs∧(v'.ownBlock=v.ownBlock∨∀k,v'.ownBlock=some k→w.heap.size≤k) ∧
   ∀u,w.ownsRow base e size u (n+m) (xs++news)→w'.ownsRow base e size u (n+m) (xs++news):=by
 obtain⟨v',w',hr,h2,h3,h4,h5⟩:=Qcr (P:=P) w base t ty e i z size bytes ht hi hz hsize hby hzs hsz v n xs hown a m c news hl hnews h1 h63 hbytes hbase;refine⟨v',w',hr,h2,h3,h4,h5,fun u hu=>?_⟩;obtain⟨hu1,hu2⟩:=hu;refine⟨hu1,?_⟩;rcases hu2 with hu2 | ⟨g2,cap2,cur2,rfl,b1,b2,b3,b4,b5,b6⟩
 ·exact .inl hu2
 ·by_cases hg:v.ownBlock=some g2
  ·rcases hown.2 with⟨rfl,_⟩ | ⟨g,cap,cur,rfl,a1,a2,a3,a4,a5,a6⟩
   ·cases hg
   ·cases hg
    rw[a2]at b2;cases b2;by_cases hroom:n+m≤cap
    ·obtain⟨w2,hr2,k2,_⟩:=run_append_own_spare (P:=P) w base t ty e i size ht hi hsize g n cap xs hown a m c news hl hnews h1 hroom
     rw[hr]at hr2;cases hr2;rcases k2.2 with⟨h,_⟩ | ⟨g3,cap3,cur3,hv,c1,c2,c3,c4,c5,c6⟩
     ·cases h
     ·cases hv
      exact .inr ⟨g,cap2,cur3,rfl,c1,c2,b3,b4,by rw[c5,←a5,b5],c6⟩
    ·subst hsize
     subst hby
     have holds:∀j u,xs[j]? =some u→w.cell? ((⟨g,0,none⟩:Addr).add j)=some u:=hown.cells (g:=g) rfl
     have hr2:=run_append_grow (P:=P) w t ty e i z ht hi hz ⟨g,0,none⟩ n cap xs hown.1 holds a m c news hl hnews (by omega) (by simp only[maxLen]at h63;omega) (growslice_fits (by omega) hbytes);rw[hr]at hr2;cases hr2;exact .inr ⟨g,cap2,cur2,rfl,b1,Qaf (w:=w.drew) a2 _,b3,b4,b5,b6⟩
  ·exact .inr ⟨g2,cap2,cur2,rfl,b1,(h3.block _ (Qad b2) (fun e=>hg e.symm)).trans b2,b3,b4,b5,b6⟩
theorem QcX{P:Program}{o:Oper}{a:Act}{w:World}{K:Act→World→Prop}{Q:Exit→Act→World→Prop}{T Te:TypeId}{z:Value}{sz by':Nat}(hT:SlT P T Te z sz by')
  (s xo:Operand)(ho:o.op=.call {callee:=.builtin .append,args:=#[s,xo],argTypes:=#[T,T]})(base:Nat)(v:Value)(n:Nat)(xs:List Value)(hs:a.eval s=v)(hown:w.ownsRow base Te sz v n xs)
  (blk:Nat)(news:List Value)(hl:news.length=1*sz)(hx:a.eval xo=.slice (some ⟨blk,0,none⟩) 1 1)(hc:∀j u,news[j]? =some u→w.cell? ⟨blk,j,none⟩=some u)(h1:∀v∈news,v.oneCell'=true)(hm:n+1≤maxLen)(hn:(n+1)*by'≤140737488355328)(hbase:base≤w.heap.size)
  (hK:∀v' w',w'.ownsRow base Te sz v' (n+1) (xs++news)→w.grownBy w' v.ownBlock→w'.ownsRow base Te sz v n xs→(v'.ownBlock=v.ownBlock∨∀k,v'.ownBlock=some k→w.heap.size≤k)→(∀u,w.ownsRow base Te sz u (n+1) (xs++news)→w'.ownsRow base Te sz u (n+1) (xs++news))→K (a.put o.dst v') w') :
  o.wp P a w K Q:=by
 obtain⟨i0,hi,hz0,hz1,hz2⟩:=hT.i;obtain⟨v',w',hrun,r1,r2,r3,r4,r5⟩:=QdH (P:=P) w base T o.type Te i0 z sz by' hT.hu hi hz0 hz1 hz2 hT.zs hT.pos v n xs hown ⟨blk,0,none⟩ 1 1 news hl (fun j u hj=>by
  have:=hc j u hj;by_cases h0:j=0
  ·subst h0;simpa [Addr.add]using this
  ·simpa [Addr.add,h0]using this) h1 hm hn hbase
 unfold Oper.wp;simp[execOp,ho,resolve,invoke,builtin,hs,hx,hrun,Result.andThen];exact hK v' w' r1 r2 r3 r4 r5
structure RE(vA vB:Value)(B n:Nat)(xA nA xB nB:List Value)(w w':World):Prop where
 ext:Ext (fun d=>vA.ownBlock=some d∨vB.ownBlock=some d) w w'
 a0:w.ownsRow B 9 1 vA n xA→w'.ownsRow B 9 1 vA n xA
 a1:∀v,w.ownsRow B 9 1 v (n+1) (xA++nA)→w'.ownsRow B 9 1 v (n+1) (xA++nA)
 b0:w.ownsRow B 33 11 vB n xB→w'.ownsRow B 33 11 vB n xB
 b1:∀v,w.ownsRow B 33 11 v (n+1) (xB++nB)→w'.ownsRow B 33 11 v (n+1) (xB++nB)
section
variable {vA vB:Value}{B n:Nat}{xA nA xB nB:List Value}{w w' w'':World}
theorem RE.trans(h:RE vA vB B n xA nA xB nB w w')(k:RE vA vB B n xA nA xB nB w' w''):RE vA vB B n xA nA xB nB w w'' :=
 ⟨h.ext.trans k.ext,fun x=>k.a0 (h.a0 x),fun v x=>k.a1 v (h.a1 v x),fun x=>k.b0 (h.b0 x),fun v x=>k.b1 v (h.b1 v x)⟩
theorem RE.refl:RE vA vB B n xA nA xB nB w w:=⟨.refl _ _,id,fun _ h=>h,id,fun _ h=>h⟩
theorem RE.drew:RE vA vB B n xA nA xB nB w w.drew:=⟨(Ext.refl _ _).drew,id,fun _ h=>h,id,fun _ h=>h⟩
theorem RE.alloc(o:Obj):RE vA vB B n xA nA xB nB w (w.alloc o):=⟨(Ext.refl _ _).alloc o,fun h=>Qbs h o,fun _ h=>Qbs h o,fun h=>Qbs h o,fun _ h=>Qbs h o⟩
theorem RE.growA(ho:w.ownsRow B 9 1 vA n xA)(hg:w.grownBy w' vA.ownBlock)(h0:w'.ownsRow B 9 1 vA n xA)(h1:∀v,w.ownsRow B 9 1 v (n+1) (xA++nA)→w'.ownsRow B 9 1 v (n+1) (xA++nA)):RE vA vB B n xA nA xB nB w w' :=
 ⟨(QaF ho hg).mono (fun _ h=>.inl h),fun _=>h0,h1,fun h=>QbD h ho hg (by decide),fun _ h=>QbD h ho hg (by decide)⟩
theorem RE.growB(ho:w.ownsRow B 33 11 vB n xB)(hg:w.grownBy w' vB.ownBlock)(h0:w'.ownsRow B 33 11 vB n xB)(h1:∀v,w.ownsRow B 33 11 v (n+1) (xB++nB)→w'.ownsRow B 33 11 v (n+1) (xB++nB)):RE vA vB B n xA nA xB nB w w' :=
 ⟨(QaF ho hg).mono (fun _ h=>.inr h),fun h=>QbD h ho hg (by decide),fun _ h=>QbD h ho hg (by decide),fun _=>h0,h1⟩
end
theorem Qe8(w:World)(b:Nat):(Instr.fieldAt 33 (.pointer (some ⟨b,0,none⟩)) 3).run prog w=.ok (.pointer (some ⟨b,8,none⟩)) w:=by kernel_rfl
theorem Qe9(w:World)(b:Nat):(Instr.fieldAt 33 (.pointer (some ⟨b,0,none⟩)) 5).run prog w=.ok (.pointer (some ⟨b,10,none⟩)) w:=by kernel_rfl
theorem Qgj(w:World)(b:Nat):(Instr.fieldAt 221 (.pointer (some ⟨b,0,none⟩)) 0).run prog w=.ok (.pointer (some ⟨b,0,none⟩)) w:=by kernel_rfl
theorem ld27(w:World)(b o:Nat)(p:Option Addr)(n c:Nat)(h:w.cell? ⟨b,o,none⟩=some (.slice p n c)):(Instr.loadAt 27 (.pointer (some ⟨b,o,none⟩))).run prog w=.ok (.slice p n c) w:=by go_simp
theorem ld31(w:World)(b o:Nat)(p:Option Addr)(n c:Nat)(h:w.cell? ⟨b,o,none⟩=some (.slice p n c)):(Instr.loadAt 31 (.pointer (some ⟨b,o,none⟩))).run prog w=.ok (.slice p n c) w:=by go_simp
theorem ld131(w:World)(b o:Nat)(s:ByteArray)(h:w.cell? ⟨b,o,none⟩=some (.string s)):(Instr.loadAt 131 (.pointer (some ⟨b,o,none⟩))).run prog w=.ok (.string s) w:=by go_simp
theorem ld33(w:World)(b:Nat)(op:Int)(s:ByteArray)(kd nn:Int)(vs vt:ByteArray)(pk:Option Addr)(nk ck:Nat)(pp:Option Addr)(np cp:Nat)(pl:Option Addr)(nl cl:Nat)
  (h:w.heap[b]? =some (.cells (xCells op s kd nn vs vt (.slice pk nk ck) (.slice pp np cp) (.slice pl nl cl)) 33 (0,0))):(Instr.loadAt 33 (.pointer (some ⟨b,0,none⟩))).run prog w=.ok (.agg (xCells op s kd nn vs vt (.slice pk nk ck) (.slice pp np cp) (.slice pl nl cl))) w:=by
 obtain⟨h0,h1,h2,h3,h4,h5,h6,h7,h8,h9,h10⟩:=Cl11 h rfl rfl rfl rfl rfl rfl rfl rfl rfl rfl rfl;go_simp
theorem st27(w:World)(b o:Nat)(p:Option Addr)(n c:Nat)(u:Value)(h:w.cell? ⟨b,o,none⟩=some u)(hf:w.frozen? ⟨b,o,none⟩=false):(Instr.storeAt 27 (.pointer (some ⟨b,o,none⟩)) (.slice p n c)).run prog w=.ok () (w.setCell ⟨b,o,none⟩ (.slice p n c)):=by go_simp
theorem st31(w:World)(b o:Nat)(p:Option Addr)(n c:Nat)(u:Value)(h:w.cell? ⟨b,o,none⟩=some u)(hf:w.frozen? ⟨b,o,none⟩=false):(Instr.storeAt 31 (.pointer (some ⟨b,o,none⟩)) (.slice p n c)).run prog w=.ok () (w.setCell ⟨b,o,none⟩ (.slice p n c)):=by go_simp
theorem wpo_bs27{o:Oper}{a:Act}{w:World}{K:Act→World→Prop}{Q:Exit→Act→World→Prop}(x:Tmp)(ho:o.op=.buildSlice 27 1 #[(0,.tmp x)])(s:ByteArray)(hx:a.eval (.tmp x)=.string s)(h:K (a.put o.dst (.slice (some ⟨w.heap.size,0,none⟩) 1 1)) (w.alloc (.cells #[.string s] 9))):o.wp prog a w K Q:=by
 have hx':a.tmps[x]?.getD undef=.string s:=by simpa [Act.eval]using hx
 unfold Oper.wp;simp only[execOp,ho];go_simp;exact h
theorem wpo_bs31{o:Oper}{a:Act}{w:World}{K:Act→World→Prop}{Q:Exit→Act→World→Prop}(x:Tmp)(ho:o.op=.buildSlice 31 1 #[(0,.tmp x)])(op:Int)(s:ByteArray)(kd nn:Int)(vs vt:ByteArray)(pk:Option Addr)(nk ck:Nat)(pp:Option Addr)(np cp:Nat)(pl:Option Addr)(nl cl:Nat)
  (hx:a.eval (.tmp x)=.agg (xCells op s kd nn vs vt (.slice pk nk ck) (.slice pp np cp) (.slice pl nl cl)))(h:K (a.put o.dst (.slice (some ⟨w.heap.size,0,none⟩) 1 1)) (w.alloc (.cells (xCells op s kd nn vs vt (.slice pk nk ck) (.slice pp np cp) (.slice pl nl cl)) 33))):o.wp prog a w K Q:=by
 have hx':a.tmps[x]?.getD undef=.agg (xCells op s kd nn vs vt (.slice pk nk ck) (.slice pp np cp) (.slice pl nl cl)):=by simpa [Act.eval]using hx
 unfold Oper.wp;simp only[execOp,ho];go_simp;exact h
theorem Qd4{P:Program}{ops:Array Oper}{Q:Exit→Act→World→Prop}{listed:Array Bool}{a:Act}{w:World}(hr:Region.ready .any ops listed=[])(h:Q .normal a w):∀k,wpAny P .any ops Q k listed a w
 | 0=>⟨hr,h⟩
 | _+1=>⟨fun _=>h,fun i hi=>by rw[hr]at hi;cases hi⟩
def ks(l:List (ByteArray×Ex)):List Value:=l.map fun p=>.string p.1
def RdRl(w0:World)(l:List (ByteArray×Ex))(ys:List PEx)(sl:Value)(wr:World):Prop :=
 ∃i vA vB csB,sl=.int .i64 ((i:Nat):Int)∧i≤l.length∧wr.heap[w0.heap.size]? =some (.cells xZero 33 (0,0))∧wr.heap[w0.heap.size+1+1]? =some (.cells (xCells 30 ⟨#[]⟩ 0 0 ⟨#[]⟩ ⟨#[]⟩ vA (.slice none 0 0) vB) 33 (0,0)) ∧
  wr.ownsRow (w0.heap.size+3) 9 1 vA i (ks (l.take i))∧wr.ownsRow (w0.heap.size+3) 33 11 vB i csB∧PxsIs wr (fun d=>w0.heap.size+3≤d∧vA.ownBlock≠some d∧vB.ownBlock≠some d) csB (ys.take i)∧Below w0.heap.size w0 wr∧w0.heap.size+3≤wr.heap.size
def ΦR(B yb eb H:Nat)(vA vB:Value)(n:Nat)(key:ByteArray)(xA xB:List Value)(c:Array Value)(j:Nat)(v:Value)(w:World):Prop:=match j with
 | 0=>v=.pointer (some ⟨yb,8,none⟩)
 | 1=>v=vA
 | 2=>v=.pointer (some ⟨eb,0,none⟩)
 | 3=>v=.string key
 | 4=>∃blk,v=.slice (some ⟨blk,0,none⟩) 1 1∧w.heap[blk]? =some (.cells #[.string key] 9 (0,0))∧H≤blk
 | 5=>w.ownsRow B 9 1 v (n+1) (xA++[.string key])∧(v.ownBlock=vA.ownBlock∨∀k,v.ownBlock=some k→H≤k)
 | 6=>v=.pointer (some ⟨yb,10,none⟩)
 | 7=>v=vB
 | 8=>v=.agg c
 | 9=>∃blk,v=.slice (some ⟨blk,0,none⟩) 1 1∧w.heap[blk]? =some (.cells c 33 (0,0))∧H≤blk
 | 10=>w.ownsRow B 33 11 v (n+1) (xB++c.toList)∧(v.ownBlock=vB.ownBlock∨∀k,v.ownBlock=some k→H≤k)
 | 11=>v=.pointer (some ⟨yb,8,none⟩)
 | _=>True
theorem ΦR.kept{B yb eb H:Nat}{vA vB:Value}{n:Nat}{key:ByteArray}{xA xB:List Value}{c:Array Value}{j:Nat}{v:Value}{w w':World}(hE:RE vA vB B n xA [.string key] xB c.toList w w')(hA:∀k,vA.ownBlock=some k→k<H)(hB:∀k,vB.ownBlock=some k→k<H)
  (h:ΦR B yb eb H vA vB n key xA xB c j v w):ΦR B yb eb H vA vB n key xA xB c j v w':=by
 unfold ΦR at h ⊢;split<;>first | exact trivial | exact h | skip
 ·obtain⟨blk,h1,h2,h3⟩:=h
  exact⟨blk,h1,hE.ext.heap (fun hS=>hS.elim (fun e=>by have:=hA _ e;omega) (fun e=>by have:=hB _ e;omega)) h2,h3⟩
 ·exact⟨hE.a1 _ h.1,h.2⟩
 ·obtain⟨blk,h1,h2,h3⟩:=h
  exact⟨blk,h1,hE.ext.heap (fun hS=>hS.elim (fun e=>by have:=hA _ e;omega) (fun e=>by have:=hB _ e;omega)) h2,h3⟩
 ·exact⟨hE.b1 _ h.1,h.2⟩
theorem px_recd{l:List (ByteArray×Ex)}{ys:List PEx}(hlen:ys.length=l.length)(hC:∀(i:Nat)(a:ByteArray×Ex)(y:PEx),l[i]? =some a→ys[i]? =some y→PxC a.2 y)(hm:l.length≤1000000):PxC (.recd l) (.mk 30 ⟨#[]⟩ pv0 (l.map (·.1)) [] ys):=by
 intro w lo v hn;cases hn with
 | recd _ p c vs hr hn =>
 have HC:=Hi hC;clear hC;have HLEN:=Hi hlen;clear hlen;have HN:=Hi hn;clear hn;have HRW:=Hi hr;clear hr;go_enter func51,ntmps51
 go_upto_region 48 with(fail)
 refine QaB fun w1 hw1=>?_
 have HQ:Hid (RdRl w l ys (.int .i64 0) w1):=Hi (by
  rw[hw1];refine⟨0,.slice none 0 0,.slice none 0 0,[],rfl,Nat.zero_le _,Qaf (Qaf (Xa w _) _) _,Qah (by simp) _,⟨rfl,.inl ⟨rfl,rfl⟩⟩,⟨rfl,.inl ⟨rfl,rfl⟩⟩,.nil,((Qab w _).alloc (by simp) _).alloc (by simp;omega) _,by simp⟩)
 clear hw1
 go_loopw [182] (fun sl wr=>RdRl w l ys sl wr) (fun sl _=>l.length-(intOf sl).toNat)
 case atStart=>exact HQ.out
 case round =>
  clear HQ;obtain⟨i,vA,vB,csB,rfl,hi,hR,hY,hA,hB,hP,hBl,hz⟩:=hrel;obtain⟨pA,cA,rfl,-⟩:=RwU.own hA;obtain⟨pB,cB,rfl,-⟩:=RwU.own hB;have HR:=Hi hR;clear hR;have HA:=Hi hA;clear hA;have HBB:=Hi hB;clear hB;have HP:=Hi hP;clear hP;have HB:=Hi hBl;clear hBl;by_cases hlt:i<l.length
  ·obtain⟨a,ha⟩:∃a,l[i]? =some a:=⟨l[i],by simp[hlt]⟩
   obtain⟨y,hy⟩:∃y,ys[i]? =some y:=⟨ys[i]'(by have:=HLEN.out;omega),by simp[hlt,HLEN.out]⟩
   have hnd:=HN.out i a ha;obtain⟨T,x,hvi⟩:=hnd.iface;rw[hvi]at hnd;obtain⟨b,off,cc,fr,rfl,hlb,hcb,hcc⟩:=HRW.out.resolve_left (by omega);have hcc:=hcc i hlt;have hgd:l.getD i (⟨#[]⟩,.set [])=a:=by rw[List.getD_eq_getElem?_getD,ha];rfl
   simp only[hgd,hvi]at hcc;have hwb:=(HB.out.block b (Qad hcb)).trans hcb;have c0:wr.cell? ⟨b,off+i*2,none⟩=some (.string a.1):=Qaa hwb hcc.1;have c1:wr.cell? ⟨b,off+i*2+1,none⟩=some (.iface T x):=Qaa hwb hcc.2;have HX:=Hi (Xc ha hy);clear ha hy hcb hcc hwb hgd hvi;obtain⟨key,a⟩:=a;have hnd2:=hnd.keep (Ext.below (S:=fun _=>False) (HB.out.alloc (by omega) (.cells #[.string key,.iface T x] 221))) (fun _ h=>h.elim)
   go_wp2_with fail
   refine(HC.out i (key,a) y HX.out.1 HX.out.2 _ _ _ hnd2).mono ?_;rintro e w2⟨B2,ds,hpx,rfl⟩;obtain⟨op',s',kd,nn,vs',vt,pk,nk,ck,pp,np,cp,pl,nl,cl,rfl⟩:=hpx.get;have HPX:=Hi hpx;clear hpx
   go_upto_region 53 with(fail)
   refine QaB fun w3 hw3=>?_
   have hz12:=(show Below (wr.alloc (.cells #[.string key,.iface T x] 221)).heap.size _ w2 from B2).size;have B3:Below wr.heap.size wr w3:=by
    rw[hw3];have h1:=Qab wr (.cells #[.string key,.iface T x] 221);exact(h1.trans (B2.mono (by simp))).alloc (by simp at hz12;omega) _
   have hzb:w3.heap[w2.heap.size]? =some (.cells (xCells op' s' kd nn vs' vt (.slice pk nk ck) (.slice pp np cp) (.slice pl nl cl)) 33 (0,0)):=by rw[hw3];exact Xa _ _
   have heb:w3.heap[wr.heap.size]? =some (.cells #[.string key,.iface T x] 221 (0,0)):=by
    rw[hw3];have h1:=Xa wr (.cells #[.string key,.iface T x] 221);exact Qaf (Bk B2 h1) _
   have hz3:w3.heap.size=w2.heap.size+1:=by rw[hw3];simp
   have hpx3:PxIs w3 (fun d=>wr.heap.size+1≤d) _ y:=(HPX.out.after (show Below w2.heap.size w2 w3 by rw[hw3];exact Qab _ _)).ext (S:=fun _=>False) (.refl _ _) (fun d hd _=>⟨fun h=>h,by simp at hd;omega⟩);clear hw3;simp at hz12;have hY3:=Bk B3 hY;have hltA:=Qf8 HA.out;have hltB:=Qf8 HBB.out;have hgeA:∀k,(Value.slice pA i cA).ownBlock=some k→w.heap.size+3≤k:=fun k hk=>(Qa5 HA.out hk).1
   have hgeB:∀k,(Value.slice pB i cB).ownBlock=some k→w.heap.size+3≤k:=fun k hk=>(Qa5 HBB.out hk).1
   have hA3:=Qaj (S:=fun _=>False) HA.out (.below B3) (fun _ h=>h.elim);have hB3:=Qaj (S:=fun _=>False) HBB.out (.below B3) (fun _ h=>h.elim);refine QbE (by kernel_rfl) (by kernel_rfl) 12 (by decide) ?hcl ?htl (RE (.slice pA i cA) (.slice pB i cB) (w.heap.size+3) i (ks (l.take i)) [.string key] csB ((xCells op' s' kd nn vs' vt (.slice pk nk ck) (.slice pp np cp) (.slice pl nl cl)):Array Value).toList) (ΦR (w.heap.size+3) (w.heap.size+1+1) wr.heap.size w3.heap.size (.slice pA i cA) (.slice pB i cB) i key (ks (l.take i)) csB (xCells op' s' kd nn vs' vt (.slice pk nk ck) (.slice pp np cp) (.slice pl nl cl))) RE.drew (fun a b c h k=>h.trans k) ?hphi ?hop ?hlast
   case hcl =>
    intro listed hc hL j hj;have h10:=hL _ rfl {on:=10,ground:=.chain} (by simp) rfl;have h9:=hc 10 _ rfl h10 {on:=9,ground:=.data} (by simp) rfl;have h8:=hc 9 _ rfl h9 {on:=8,ground:=.data} (by simp) rfl
    match j,hj with
    | 0,_=>exact hL _ rfl {on:=0,ground:=.phase} (by simp) rfl
    | 1,_=>exact hL _ rfl {on:=1,ground:=.phase} (by simp) rfl
    | 2,_=>exact hL _ rfl {on:=2,ground:=.phase} (by simp) rfl
    | 3,_=>exact hL _ rfl {on:=3,ground:=.phase} (by simp) rfl
    | 4,_=>exact hL _ rfl {on:=4,ground:=.phase} (by simp) rfl
    | 5,_=>exact hL _ rfl {on:=5,ground:=.phase} (by simp) rfl
    | 6,_=>exact hL _ rfl {on:=6,ground:=.phase} (by simp) rfl
    | 7,_=>exact hL _ rfl {on:=7,ground:=.phase} (by simp) rfl
    | 8,_=>exact h8
    | 9,_=>exact h9
    | 10,_=>exact h10
    | 11,_=>exact hL _ rfl {on:=11,ground:=.data} (by simp) rfl
   case htl =>
    intro j o hj ho
    match j,hj,ho with
    | 13,_,ho=>obtain rfl:=Xd ho;exact⟨{on:=12,ground:=.phase},by simp,rfl,Xb _⟩
    | 14,_,ho=>obtain rfl:=Xd ho;exact⟨{on:=13,ground:=.data},by simp,rfl,by decide⟩
    | j+15,_,ho=>simp at ho
   case hphi =>
    intro j u w5 w6 hE h;exact h.kept hE (fun k hk=>by have:=hltA k hk;have:=B3.size;omega) (fun k hk=>by have:=hltB k hk;have:=B3.size;omega)
   case hop =>
    have hHs:∀w6,RE (.slice pA i cA) (.slice pB i cB) (w.heap.size+3) i (ks (l.take i)) [.string key] csB ((xCells op' s' kd nn vs' vt (.slice pk nk ck) (.slice pp np cp) (.slice pl nl cl)):Array Value).toList w3 w6→w6.heap[w.heap.size+1+1]? =some (.cells (xCells 30 ⟨#[]⟩ 0 0 ⟨#[]⟩ ⟨#[]⟩ (.slice pA i cA) (.slice none 0 0) (.slice pB i cB)) 33 (0,0))∧w6.heap[wr.heap.size]? =some (.cells #[.string key,.iface T x] 221 (0,0))∧w6.heap[w2.heap.size]? =some (.cells (xCells op' s' kd nn vs' vt (.slice pk nk ck) (.slice pp np cp) (.slice pl nl cl)) 33 (0,0))∧w3.heap.size≤w6.heap.size:=fun w6 hE =>
     ⟨hE.ext.heap (fun hS=>hS.elim (fun e=>by have:=hgeA _ e;omega) (fun e=>by have:=hgeB _ e;omega)) hY3,hE.ext.heap (fun hS=>hS.elim (fun e=>by have:=hltA _ e;omega) (fun e=>by have:=hltB _ e;omega)) heb,hE.ext.heap (fun hS=>hS.elim (fun e=>by have:=hltA _ e;omega) (fun e=>by have:=hltB _ e;omega)) hzb,hE.ext.size⟩
    intro j o hj hi
    match j,hi,hj with
    | 0,hi,_ =>
     obtain rfl:=Xd hi;intro a1 w6 hE hoth hpre;exact Qaw 33 (.tmp 22) 3 rfl _ (hoth 22 (by decide)) _ (Qe8 w6 _) ⟨RE.refl,_,rfl,rfl⟩
    | 1,hi,_ =>
     obtain rfl:=Xd hi;intro a1 w6 hE hoth hpre;have h0:=hpre {on:=0,ground:=.data} (by simp) rfl _ rfl;exact QaO 27 (.tmp 195) rfl _ h0 _ (ld27 w6 _ _ _ _ _ (Qaa (hHs w6 hE).1 rfl)) ⟨RE.refl,_,rfl,rfl⟩
    | 2,hi,_ =>
     obtain rfl:=Xd hi;intro a1 w6 hE hoth hpre;exact Qaw 221 (.tmp 24) 0 rfl _ (hoth 24 (by decide)) _ (Qgj w6 _) ⟨RE.refl,_,rfl,rfl⟩
    | 3,hi,_ =>
     obtain rfl:=Xd hi;intro a1 w6 hE hoth hpre;have h0:=hpre {on:=2,ground:=.data} (by simp) rfl _ rfl;exact QaO 131 (.tmp 197) rfl _ h0 _ (ld131 w6 _ _ _ (Qaa (hHs w6 hE).2.1 rfl)) ⟨RE.refl,_,rfl,rfl⟩
    | 4,hi,_ =>
     obtain rfl:=Xd hi;intro a1 w6 hE hoth hpre;have h0:=hpre {on:=3,ground:=.data} (by simp) rfl _ rfl;exact wpo_bs27 198 rfl key h0 ⟨RE.alloc _,_,rfl,_,rfl,Xa w6 _,(hHs w6 hE).2.2.2⟩
    | 5,hi,_ =>
     obtain rfl:=Xd hi;intro a1 w6 hE hoth hpre;have h1:=hpre {on:=1,ground:=.data} (by simp) rfl _ rfl;have h4:=hpre {on:=4,ground:=.data} (by simp) rfl _ rfl;obtain⟨blk,hb1,hb2,hb3⟩:=h4;exact QcX sl27 (.tmp 196) (.tmp 199) rfl (w.heap.size+3) _ i _ h1 (hE.a0 hA3) blk [.string key] rfl hb1 (QaD (Qaa hb2 rfl)) (fun v hv=>by rw[List.mem_singleton.1 hv];rfl) (by unfold maxLen;omega) (by omega) (by have:=(hHs w6 hE).2.2.2;omega) (fun v' w' q1 q2 q3 q4 q5=>⟨RE.growA (hE.a0 hA3) q2 q3 q5,v',rfl,q1,q4.imp id (fun h k hk=>Xe (hHs w6 hE).2.2.2 (h k hk))⟩)
    | 6,hi,_ =>
     obtain rfl:=Xd hi;intro a1 w6 hE hoth hpre;exact Qaw 33 (.tmp 22) 5 rfl _ (hoth 22 (by decide)) _ (Qe9 w6 _) ⟨RE.refl,_,rfl,rfl⟩
    | 7,hi,_ =>
     obtain rfl:=Xd hi;intro a1 w6 hE hoth hpre;have h0:=hpre {on:=6,ground:=.data} (by simp) rfl _ rfl;exact QaO 31 (.tmp 201) rfl _ h0 _ (ld31 w6 _ _ _ _ _ (Qaa (hHs w6 hE).1 rfl)) ⟨RE.refl,_,rfl,rfl⟩
    | 8,hi,_ =>
     obtain rfl:=Xd hi;intro a1 w6 hE hoth hpre;exact QaO 33 (.tmp 25) rfl _ (hoth 25 (by decide)) _ (ld33 w6 _ _ _ _ _ _ _ _ _ _ _ _ _ _ _ _ (hHs w6 hE).2.2.1) ⟨RE.refl,_,rfl,rfl⟩
    | 9,hi,_ =>
     obtain rfl:=Xd hi;intro a1 w6 hE hoth hpre;have h0:=hpre {on:=8,ground:=.data} (by simp) rfl _ rfl;exact wpo_bs31 203 rfl _ _ _ _ _ _ _ _ _ _ _ _ _ _ _ h0 ⟨RE.alloc _,_,rfl,_,rfl,Xa w6 _,(hHs w6 hE).2.2.2⟩
    | 10,hi,_ =>
     obtain rfl:=Xd hi;intro a1 w6 hE hoth hpre;have h1:=hpre {on:=7,ground:=.data} (by simp) rfl _ rfl;have h4:=hpre {on:=9,ground:=.data} (by simp) rfl _ rfl;obtain⟨blk,hb1,hb2,hb3⟩:=h4;exact QcX sl31 (.tmp 202) (.tmp 204) rfl (w.heap.size+3) _ i _ h1 (hE.b0 hB3) blk (xCells op' s' kd nn vs' vt (.slice pk nk ck) (.slice pp np cp) (.slice pl nl cl)).toList rfl hb1 (fun j u hj=>Qaa hb2 (by simpa using hj)) (Qh4 hpx3) (by unfold maxLen;omega) (by omega) (by have:=(hHs w6 hE).2.2.2;omega) (fun v' w' q1 q2 q3 q4 q5=>⟨RE.growB (hE.b0 hB3) q2 q3 q5,v',rfl,q1,q4.imp id (fun h k hk=>Xe (hHs w6 hE).2.2.2 (h k hk))⟩)
    | 11,hi,_ =>
     obtain rfl:=Xd hi;intro a1 w6 hE hoth hpre;exact Qaw 33 (.tmp 22) 3 rfl _ (hoth 22 (by decide)) _ (Qe8 w6 _) ⟨RE.refl,_,rfl,rfl⟩
    | j+12,_,hj=>omega
   case hlast =>
    intro a1 W2 hF k;have h5:W2.ownsRow (w.heap.size+3) 9 1 (a1.tmps.getD 200 undef) (i+1) (ks (l.take i)++[.string key])∧((a1.tmps.getD 200 undef).ownBlock=(Value.slice pA i cA).ownBlock∨∀k,(a1.tmps.getD 200 undef).ownBlock=some k→w3.heap.size≤k):=hF.facts 5 _ rfl (by simp);have h10:W2.ownsRow (w.heap.size+3) 33 11 (a1.tmps.getD 205 undef) (i+1) (csB++(xCells op' s' kd nn vs' vt (.slice pk nk ck) (.slice pp np cp) (.slice pl nl cl)).toList)∧((a1.tmps.getD 205 undef).ownBlock=(Value.slice pB i cB).ownBlock∨∀k,(a1.tmps.getD 205 undef).ownBlock=some k→w3.heap.size≤k):=hF.facts 10 _ rfl (by simp)
    have h11:a1.tmps.getD 206 undef=.pointer (some ⟨w.heap.size+1+1,8,none⟩):=hF.facts 11 _ rfl (by simp);have h22:a1.tmps.getD 22 undef=.pointer (some ⟨w.heap.size+1+1,0,none⟩):=hF.other 22 (by decide);have hsz1:207<a1.tmps.size:=by rw[hF.size];exact Nat.le_of_ble_eq_true rfl
    have hE:=hF.ext;obtain⟨fs,hfr,_⟩:=hF.frame;clear hF;obtain⟨h10,hloc⟩:=h10;obtain⟨h5,hlocA⟩:=h5;obtain⟨p5,c5,hv5,-⟩:=RwU.own h5;obtain⟨p6,c6,hv10,-⟩:=RwU.own h10;rw[hv5]at h5 hlocA;rw[hv10]at h10 hloc;have hYW:W2.heap[w.heap.size+1+1]? =some (.cells (xCells 30 ⟨#[]⟩ 0 0 ⟨#[]⟩ ⟨#[]⟩ (.slice pA i cA) (.slice none 0 0) (.slice pB i cB)) 33 (0,0)):=hE.ext.heap (fun hS=>hS.elim (fun e=>by have:=hgeA _ e;omega) (fun e=>by have:=hgeB _ e;omega)) hY3
    have hY8:=Qac (o:=8) hYW (.slice p5 (i+1) c5);have hY10:=Qac (o:=10) hY8 (.slice p6 (i+1) c6);refine Qcu (k:=k+2) (i:=12) (by kernel_rfl) rfl rfl ?_;refine Qct 27 (.tmp 206) (.tmp 200) rfl _ h11 _ hv5 _ (st27 W2 _ _ _ _ _ _ (Qaa hYW rfl) (Qae hYW 8)) ?_;refine Qcu (k:=k+1) (i:=13) (by kernel_rfl) rfl rfl ?_;refine Qaw 33 (.tmp 22) 5 rfl _ h22 _ (Qe9 _ _) ?_;refine Qcu (k:=k) (i:=14) (by kernel_rfl) rfl rfl ?_
    refine Qct 31 (.tmp 207) (.tmp 205) rfl (.pointer (some ⟨w.heap.size+1+1,10,none⟩)) ?_ (.slice p6 (i+1) c6) ?_ _ (st31 _ _ _ _ _ _ _ (Qaa hY8 rfl) (Qae hY8 10)) ?_
    ·exact(QbJ a1 207 _ 207 hsz1).trans (if_pos rfl)
    ·exact((QbJ a1 207 _ 205 hsz1).trans (if_neg (by decide))).trans hv10
    refine Qd4 (by kernel_rfl) ?_ k;obtain⟨W9,hW9⟩:∃W9,(W2.setCell ⟨w.heap.size+1+1,8,none⟩ (.slice p5 (i+1) c5)).setCell ⟨w.heap.size+1+1,10,none⟩ (.slice p6 (i+1) c6)=W9:=⟨_,rfl⟩
    have hE9:Ext (·=w.heap.size+1+1) W2 W9:=by rw[←hW9];exact((Ext.refl (·=w.heap.size+1+1) W2).set (p:=⟨_,8,none⟩) (.inl rfl) _).set (p:=⟨_,10,none⟩) (.inl rfl) _
    rw[hW9]at hY10 ⊢;clear hW9 hY8;have hBall:Below w.heap.size w W9:=(((Ext.below (S:=fun _=>False) (HB.out.trans (B3.mono HB.out.size))).trans' hE.ext (fun d hd=>.inr (hd.elim (fun e=>by have:=hgeA _ e;omega) (fun e=>by have:=hgeB _ e;omega)))).trans' hE9 (fun d hd=>.inr (by omega))).toBelow (fun _ h=>h.elim) (Xb _);have hR9:W9.heap[w.heap.size]? =some (.cells xZero 33 (0,0)):=hE9.heap (by omega) (hE.ext.heap (fun hS=>hS.elim (fun e=>by have:=hgeA _ e;omega) (fun e=>by have:=hgeB _ e;omega)) ((B3.block _ (Qad HR.out)).trans HR.out))
    have hz39:=B3.size;have hz2:=hE.ext.size;have hP3:=HP.out.after B3;have hPA:PxsIs W2 (fun d=>w.heap.size+3≤d∧(Value.slice p5 (i+1) c5).ownBlock≠some d∧(Value.slice p6 (i+1) c6).ownBlock≠some d) csB (ys.take i) :=
     hP3.ext hE.ext (fun d hd hlt'=>⟨fun hS=>hS.elim hd.2.1 hd.2.2,hd.1,fun e=>hlocA.elim (fun q=>hd.2.1 (q▸e)) (fun q=>by have:=q d e;omega),fun e=>hloc.elim (fun q=>hd.2.2 (q▸e)) (fun q=>by have:=q d e;omega)⟩)
    have hPB:PxIs W2 (fun d=>w.heap.size+3≤d∧(Value.slice p5 (i+1) c5).ownBlock≠some d∧(Value.slice p6 (i+1) c6).ownBlock≠some d) _ y :=
     hpx3.ext hE.ext (fun d hd hlt'=>⟨fun hS=>hS.elim (fun e=>by have:=hltA _ e;omega) (fun e=>by have:=hltB _ e;omega),by omega,fun e=>hlocA.elim (fun q=>by have:=hltA d (q▸e);omega) (fun q=>by have:=q d e;omega),fun e=>hloc.elim (fun q=>by have:=hltB d (q▸e);omega) (fun q=>by have:=q d e;omega)⟩)
    have hP9:=(hPA.snoc hPB).ext (U':=fun d=>w.heap.size+3≤d∧(Value.slice p5 (i+1) c5).ownBlock≠some d∧(Value.slice p6 (i+1) c6).ownBlock≠some d) hE9 (fun d hd _=>⟨by omega,hd⟩);have hkt:ks (l.take (i+1))=ks (l.take i)++[.string key]:=by rw[ks,ks,List.take_add_one,HX.out.1,Option.toList,List.map_append];rfl
    have hyt:ys.take (i+1)=ys.take i++[y]:=by rw[List.take_add_one,HX.out.2];rfl
    have HEND:Hid (RdRl w l ys (.int .i64 ((i:Int)+1)) W9):=Hi ⟨i+1,_,_,_,by go_num,by omega,hR9,hY10,by rw[hkt];exact Qaj h5 hE9 (fun d hd=>by omega),Qaj h10 hE9 (fun d hd=>by omega),by rw[hyt];exact hP9,hBall,by have:=hE9.size;omega⟩;clear hBall hR9 hP3 hPA hPB hP9 hkt hyt hlocA;subst hfr;rw[show Qbi _=[195,196,197,198,199,200,201,202,203,204,205,206,207]from rfl];simp (config:={decide:=true}) only[List.mapIdx_toArray,List.mapIdx_cons,List.mapIdx_nil,Nat.zero_add,Nat.reduceAdd,if_true,if_false,Act.put,List.setIfInBounds_toArray,List.set_cons_zero,List.set_cons_succ]
    clear h5 h10 hloc hv5 hv10 h11 h22 hsz1 hE hE9 hYW hY10;go_wp2;go_roundw
    case rel=>exact HEND.out
    case measure=>simp[intOf];omega
  ·obtain rfl:i=l.length:=by omega
   obtain⟨p5,c5,he5,hrA⟩:=RwU.own HA.out;cases he5;obtain⟨p6,c6,he6,hrB⟩:=RwU.own HBB.out;cases he6;have HRO:=Hi (Xc hrA hrB);clear hrA hrB;have k0:wr.cell? ⟨w.heap.size+1+1,0,none⟩=some (.int .i64 30):=Qaa hY rfl;have k1:wr.cell? ⟨w.heap.size+1+1,1,none⟩=some (.string ⟨#[]⟩):=Qaa hY rfl;have k2:wr.cell? ⟨w.heap.size+1+1,2,none⟩=some (.int .i64 0):=Qaa hY rfl;have k3:wr.cell? ⟨w.heap.size+1+1,3,none⟩=some (.int .i64 0):=Qaa hY rfl
   have k4:wr.cell? ⟨w.heap.size+1+1,4,none⟩=some (.string ⟨#[]⟩):=Qaa hY rfl;have k5:wr.cell? ⟨w.heap.size+1+1,5,none⟩=some (.string ⟨#[]⟩):=Qaa hY rfl;have k6:wr.cell? ⟨w.heap.size+1+1,6,none⟩=some (.slice none 0 0):=Qaa hY rfl;have k7:wr.cell? ⟨w.heap.size+1+1,7,none⟩=some (.slice none 0 0):=Qaa hY rfl;have k8:wr.cell? ⟨w.heap.size+1+1,8,none⟩=some (.slice pA l.length cA):=Qaa hY rfl;have k9:wr.cell? ⟨w.heap.size+1+1,9,none⟩=some (.slice none 0 0):=Qaa hY rfl
   have k10:wr.cell? ⟨w.heap.size+1+1,10,none⟩=some (.slice pB l.length cB):=Qaa hY rfl;clear hY;obtain⟨e0,e1,e2,e3,e4,e5,e6,e7,e8,e9,e10,f0,f1,f2,f3,f4,f5,f6,f7,f8,f9,f10⟩:=Qa6 HR.out
   go_wp2_with fail
   obtain⟨w9,hw9,h9,hE⟩:=Qch HR.out rfl (.int .i64 30) (.string ⟨#[]⟩) (.int .i64 0) (.int .i64 0) (.string ⟨#[]⟩) (.string ⟨#[]⟩) (.slice none 0 0) (.slice none 0 0) (.slice pA l.length cA) (.slice none 0 0) (.slice pB l.length cB);rw[hw9];clear hw9;refine Qbp _ 2 3 (by kernel_rfl) rfl rfl rfl h9 rfl ?_;have hyl:=HLEN.out;refine⟨((Ext.below (S:=fun _=>False) HB.out).trans' hE (fun d hd=>by omega)).toBelow (fun _ h=>h.elim) (Xb _),_,?_,rfl⟩
   have hP:=HP.out;rw[List.take_of_length_le (by omega)]at hP;obtain⟨hrA,hrB⟩:=HRO.out;rw[List.take_of_length_le (Xb _)]at hrA;have hA':=hrA.ext (U':=(w.heap.size≤·)) hE (fun d hd _=>by omega);have hB':=hrB.ext (U':=(w.heap.size≤·)) hE (fun d hd _=>by omega);have hkl:(l.map (·.1)).length=l.length:=List.length_map ..;have hks:(l.map (·.1)).map Value.string=ks l:=by rw[List.map_map];rfl
   have hfin:PxIs w9 (w.heap.size≤·) [.int .i64 30,.string ⟨#[]⟩,.int .i64 0,.int .i64 0,.string ⟨#[]⟩,.string ⟨#[]⟩,.slice none 0 0,.slice none 0 0,.slice pA (l.map (·.1)).length cA,.slice none 0 0,.slice pB ys.length cB] (.mk 30 ⟨#[]⟩ pv0 (l.map (·.1)) [] ys) :=
    .mk 30 ⟨#[]⟩ pv0 (l.map (·.1)) [] ys pA none pB cA 0 cB csB (by rw[hkl,hks];exact hA') .nil (by rw[hyl];exact hB') (fun i a hi=>(hP.2 i a hi).ext hE (fun d hd _=>by omega))
   rw[hkl,hyl]at hfin;exact hfin
end Go.Proofs.Pg
namespace Go.Proofs.Pg
open Go.RowKit
def binC(op:Nat):Int:=((binT.find? fun p=>p.1==op).map (·.2)).getD 0
mutual
def toP:Ex→PEx
 | .val v=>.mk 1 ⟨#[]⟩ (toV v) [] [] []
 | .var s=>.mk 2 s pv0 [] [] []
 | .ite a b c=>.mk 3 ⟨#[]⟩ pv0 [] [] [toP a,toP b,toP c]
 | .bin op a b=>.mk (binC op) ⟨#[]⟩ pv0 [] [] [toP a,toP b]
 | .una op a=>.mk (if op=208 then 21 else if op=209 then 22 else 29) ⟨#[]⟩ pv0 [] [] [toP a]
 | .sop op a s=>.mk (if op=193 then 13 else if op=194 then 23 else 16) s pv0 [] [] [toP a]
 | .isIn a s b=>.mk 17 s pv0 [] [] [toP a,toP b]
 | .like a p=>.mk 15 ⟨#[]⟩ pv0 [] (QaN p) [toP a]
 | .call s l=>.mk 25 s pv0 [] [] (toPs l)
 | .set l=>.mk 31 ⟨#[]⟩ pv0 [] [] (toPs l)
 | .recd l=>.mk 30 ⟨#[]⟩ pv0 (l.map (·.1)) [] (toPr l)
def toPs:List Ex→List PEx
 | []=>[]
 | a::l=>toP a::toPs l
def toPr:List (ByteArray×Ex)→List PEx
 | []=>[]
 | (_,a)::l=>toP a::toPr l
end
theorem Qej(l:List Ex):toPs l=l.map toP:=by
 induction l with
 | nil=>rfl
 | cons a l ih=>rw[toPs,ih];rfl
theorem toPr_map(l:List (ByteArray×Ex)):toPr l=l.map fun p=>toP p.2:=by
 induction l with
 | nil=>rfl
 | cons a l ih=>obtain⟨k,a⟩:=a;rw[toPr,ih];rfl
inductive OkE:Ex→Prop
 | val (v:Vl):OkE (.val v)
 | var (s:ByteArray):OkE (.var s)
 | ite {a b c:Ex}(h1:OkE a)(h2:OkE b)(h3:OkE c):OkE (.ite a b c)
 | bin {op:Nat}{a b:Ex}(ho:(op,binC op)∈binT)(h1:OkE a)(h2:OkE b):OkE (.bin op a b)
 | una {op:Nat}{a:Ex}(ho:op=208∨op=209∨op=210)(h1:OkE a):OkE (.una op a)
 | sop {op:Nat}{a:Ex}{s:ByteArray}(ho:op=193∨op=194∨op=202)(h1:OkE a):OkE (.sop op a s)
 | isIn {a b:Ex}{s:ByteArray}(h1:OkE a)(h2:OkE b):OkE (.isIn a s b)
 | like {a:Ex}{p:List (Bool×ByteArray)}(hp:p.length≤10000000)(h1:OkE a):OkE (.like a p)
 | call {s:ByteArray}{l:List Ex}(hl:l.length≤1000000)(h:∀a∈l,OkE a):OkE (.call s l)
 | set {l:List Ex}(hl:l.length≤1000000)(h:∀a∈l,OkE a):OkE (.set l)
 | recd {l:List (ByteArray×Ex)}(hl:l.length≤1000000)(h:∀a∈l,OkE a.2):OkE (.recd l)
theorem expr_px{x:Ex}(h:OkE x):PxC x (toP x):=by
 induction h with
 | val v=>rw[toP];exact px_val v
 | var s=>rw[toP];exact px_var s
 | ite _ _ _ i1 i2 i3=>rw[toP];exact px_ite i1 i2 i3
 | bin ho _ _ i1 i2=>rw[toP];exact px_bin i1 i2 _ _ ho
 | una ho _ i1 =>
  rw[toP];rcases ho with rfl | rfl | rfl
  ·exact px_u208 i1
  ·exact px_u209 i1
  ·exact px_u210 i1
 | sop ho _ i1 =>
  rw[toP];rcases ho with rfl | rfl | rfl
  ·exact px_s193 i1 _
  ·exact px_s194 i1 _
  ·exact px_s202 i1 _
 | isIn _ _ i1 i2=>rw[toP];exact px_isin i1 i2 _
 | like hp _ i1=>rw[toP];exact px_like i1 _ hp
 | call hl _ ih =>
  rw[toP,Qej];exact px_call (by simp) (fun i a y h1 h2=>by
   rw[List.getElem?_map,h1]at h2;cases h2;exact ih a (List.mem_of_getElem? h1)) _ hl
 | set hl _ ih =>
  rw[toP,Qej];exact px_set (by simp) (fun i a y h1 h2=>by
   rw[List.getElem?_map,h1]at h2;cases h2;exact ih a (List.mem_of_getElem? h1)) hl
 | recd hl _ ih =>
  rw[toP,toPr_map];exact px_recd (by simp) (fun i a y h1 h2=>by
   rw[List.getElem?_map,h1]at h2;cases h2;exact ih a (List.mem_of_getElem? h1)) hl
end Go.Proofs.Pg
namespace Go.Proofs.Pg
open Go.RowKit Go.Proofs.Tryz
attribute [local go_sem] Oper.semAt_some
def IntR(Q:Int→Prop)(w:World)(e:Ending)(w':World):Prop:=(∃x,e=.returned (.int .i64 x)∧Q x)∧w'=w
theorem hexd_c(a:UInt8)(w:World):Calls prog 156 #[.int .u8 (a.toNat:Int)] w (IntR (fun _=>True) w):=by
 have ha:=a.toNat_lt;generalize a.toNat=n at *;go_enter func156,ntmps156
 go_wp2_with fail
 all_goals
  go_ret;exact⟨⟨_,rfl,trivial⟩,rfl⟩
theorem longe_c(s:ByteArray)(p:Nat)(hs:s.size≤3000)(hp:p≤s.size)(w:World):Calls prog 157 #[.string s,.int .i64 (p:Int)] w (IntR (fun x=>0≤x∧x≤9) w):=by
 have HX:=Hi (fun a=>hexd_c a w);go_enter func157,ntmps157;by_cases h:p+1<s.size
 ·have h1:(p:Int)+1<(s.size:Int):=by omega
  have h4:decide ((s.size:Int)≤(p:Int)+1)=false:=decide_eq_false (by omega);cases hb:(((s[p+1]'h).toNat:Int) != 123)with
  | true =>
   go_wp2_with fail
   go_ret;exact⟨⟨_,rfl,by decide⟩,rfl⟩
  | false =>
  go_wp2_with fail
  go_loopw [5] (fun s5 wr=>∃k:Nat,s5=.int .i64 k∧p+2+k≤s.size∧wr=w) (fun s5 _=>s.size-(intOf s5).toNat)
  case atStart=>exact⟨0,rfl,by omega,rfl⟩
  case round =>
   obtain⟨k,rfl,hk,rfl⟩:=hrel;by_cases h2:p+2+k<s.size
   ·have h3:(p:Int)+2+(k:Int)<(s.size:Int):=by omega
    go_wp2_with fail
    refine(HX.out _).mono ?_;rintro e w1⟨⟨x,rfl,_⟩,rfl⟩
    go_wp2_with fail
    all_goals first
     | (go_ret;exact⟨⟨_,rfl,by omega⟩,rfl⟩)
     | exact⟨⟨k+1,rfl,by omega,trivial⟩,by simp[intOf];omega⟩
   ·have h3:¬(p:Int)+2+(k:Int)<(s.size:Int):=by omega
    go_wp2_with fail
    all_goals first
     | exact⟨⟨k+1,rfl,by omega,trivial⟩,by simp[intOf];omega⟩
     | (go_ret;exact⟨⟨_,rfl,by omega⟩,rfl⟩)
 ·have h1:¬(p:Int)+1<(s.size:Int):=by omega
  go_wp2_with fail
  go_ret;exact⟨⟨_,rfl,by decide⟩,rfl⟩
theorem esize_c(s:ByteArray)(p:Nat)(hs:s.size≤3000)(hp:p≤s.size)(w:World):Calls prog 120 #[.string s,.int .i64 (p:Int)] w (IntR (fun x=>0≤x∧x≤9) w):=by
 have HX:=Hi (fun a=>hexd_c a w);have HL:=Hi (longe_c s p hs hp w);go_enter func120,ntmps120;by_cases h:p<s.size
 ·have h1:(p:Int)<(s.size:Int):=by omega
  by_cases h2:p+2<s.size
  ·have h3:(p:Int)+2<(s.size:Int):=by omega
   go_wp2_with fail
   all_goals first
    | (go_ret;exact⟨⟨_,rfl,by omega⟩,rfl⟩)
    | (refine(HX.out _).mono ?_;rintro e w1 ⟨⟨x,rfl,_⟩,rfl⟩;go_wp2_with fail;all_goals first | (go_ret;exact⟨⟨_,rfl,by omega⟩,rfl⟩) | (refine(HX.out _).mono ?_;rintro e w1 ⟨⟨x,rfl,_⟩,rfl⟩;go_wp2_with fail;all_goals(go_ret;exact⟨⟨_,rfl,by omega⟩,rfl⟩)))
    | (refine HL.out.mono ?_;rintro e w1 ⟨⟨x,rfl,hx⟩,rfl⟩;go_wp2_with fail;go_ret;exact⟨⟨_,rfl,hx⟩,rfl⟩)
  ·have h3:¬(p:Int)+2<(s.size:Int):=by omega
   go_wp2_with fail
   all_goals first
    | (go_ret;exact⟨⟨_,rfl,by omega⟩,rfl⟩)
    | (refine HL.out.mono ?_;rintro e w1 ⟨⟨x,rfl,hx⟩,rfl⟩;go_wp2_with fail;go_ret;exact⟨⟨_,rfl,hx⟩,rfl⟩)
 ·have h1:¬(p:Int)<(s.size:Int):=by omega
  go_wp2_with fail
  go_ret;exact⟨⟨_,rfl,by decide⟩,rfl⟩
end Go.Proofs.Pg
