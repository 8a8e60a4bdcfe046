/- FnDecodeAll, part 21. -/
import Derived.Test.YtmhjkkkhdlnngaaGreatDoorZ14
set_option linter.all false
set_option maxRecDepth 100000
set_option maxHeartbeats 0
namespace Go.Proofs.Pg
open Go.RowKit Go.Proofs.Tryz
theorem Qi3{P:Program}{w:World}{k:Nat}{a:Addr}{u c:Value}(hb:w.heap[k]? =some (.cells #[c] 348 (0,0)))(ha:w.cell? a=some u)(hne:k≠a.block):(sameAddr ⟨k,0,none⟩ a).run P w=.ok false w:=by
 unfold World.cell? at ha;cases hh:w.heap[a.block]? with
 | none=>rw[hh]at ha;simp at ha
 | some o =>
  rw[hh]at ha;cases o with
  | cells ca ta fa =>
   have h0:ca.size≠0:=by
    intro h;have:ca=#[]:=Array.eq_empty_of_size_eq_zero h;subst this;simp at ha
   have h1:ca≠#[]:=fun h=>h0 (by rw[h];rfl)
   simp[sameAddr,hne,World.frozen?,hb,hh,noView,viewAt,World.shape?,mayBeOne,stringish,h0,h1]
  | _=>simp at ha
theorem QiN{P:Program}(w:World)(d:Nat){ti tp te:TypeId}{ms:Array (String×TypeId)}{i j:TypeInfo}{a b:Addr}
  (hi:P.underlying ti=some (.interface ms))(hp:P.underlying tp=some (.pointer te))(hinfo:P.info? tp=some i)(hcomp:i.comparable=true)(hte:P.info? te=some j)(hsz:j.size≠0)(hs:(sameAddr a b).run P w=.ok false w) :
  (Op.equalIn (d+2) ti (.iface tp (.pointer (some a))) (.iface tp (.pointer (some b)))).run P w=.ok false w:=by
 simp[Op.equalIn,run_underlying hi,run_underlying hp,typeInfo,hinfo,hcomp,sizeOf,hte,hsz,hs]
theorem QiO{P:Program}(w:World)(d:Nat){ti tp T:TypeId}{ms:Array (String×TypeId)}{u v:Value}(hi:P.underlying ti=some (.interface ms))(hT:¬T=tp) :
  (Op.equalIn (d+2) ti (.iface T v) (.iface tp u)).run P w=.ok false w:=by
 simp[Op.equalIn,run_underlying hi,hT]
theorem eof_eq(a:Addr)(w:World):(binOp .eql 104 (.iface 346 (.pointer (some a))) (.iface 346 (.pointer (some a)))).run prog w=.ok (.bool true) w:=by
 have h1:(prog.info? 346).map (·.comparable)=some true:=by kernel_rfl
 have h2:(prog.info? 348).map (·.comparable)=some true:=by kernel_rfl
 obtain⟨i,hi,hc⟩:∃i,prog.info? 346=some i∧i.comparable=true:=by
  cases h:prog.info? 346 with
  | none=>rw[h]at h1;cases h1
  | some i=>rw[h]at h1;exact⟨i,rfl,Xd h1⟩
 obtain⟨j,hj⟩:∃j,prog.info? 348=some j:=by
  cases h:prog.info? 348 with
  | none=>rw[h]at h2;cases h2
  | some i=>exact⟨i,rfl⟩
 exact run_eql_iface_ptr_same w a underlying104 underlying346 hi hc hj
theorem err_eq{K:Nat}{w:World}{T:TypeId}{v:Value}{a:Addr}{u:Value}(h:EIs K w T v)(ha:w.cell? a=some u)(hk:a.block<K):(binOp .eql 104 (.iface T v) (.iface 346 (.pointer (some a)))).run prog w=.ok (.bool false) w:=by
 by_cases hT:T=346
 ·subst hT
  obtain⟨k,rfl,hb,c,ho⟩:=h.resolve_left (fun h=>h rfl);have h1:(prog.info? 346).map (·.comparable)=some true:=by kernel_rfl
  have h2:(prog.info? 348).map (fun i=>i.size != 0)=some true:=by kernel_rfl
  obtain⟨i,hi,hc⟩:∃i,prog.info? 346=some i∧i.comparable=true:=by
   cases h:prog.info? 346 with
   | none=>rw[h]at h1;cases h1
   | some i=>rw[h]at h1;exact⟨i,rfl,Xd h1⟩
  obtain⟨j,hj,hz⟩:∃j,prog.info? 348=some j∧j.size≠0:=by
   cases h:prog.info? 348 with
   | none=>rw[h]at h2;cases h2
   | some i=>rw[h]at h2;exact⟨i,rfl,by simpa using h2⟩
  have hs:=Qi3 (P:=prog) ho ha (show k≠a.block by omega);simp only[binOp];simp[Op.equal,Op.maxDepth,QiN (P:=prog) w 9998 underlying104 underlying346 hi hc hj hz hs]
 ·simp only[binOp]
  simp[Op.equal,Op.maxDepth,QiO (P:=prog) w 9998 underlying104 hT]
end Go.Proofs.Pg
