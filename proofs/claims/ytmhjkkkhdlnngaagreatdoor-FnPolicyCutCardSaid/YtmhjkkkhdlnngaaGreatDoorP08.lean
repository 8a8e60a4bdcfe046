/- FnPolicyCut, part 8. -/
import Derived.Test.YtmhjkkkhdlnngaaGreatDoorP07
import Derived.Shelf.Unicode.ValidAny
set_option linter.all false
set_option maxRecDepth 100000
set_option maxHeartbeats 0
namespace Go.Proofs.Pg
open Go.RowKit Go.Proofs.Tryz
attribute [local go_sem] Oper.semAt_some
def StrP(bp base:Nat)(w:World)(r:Option (ByteArray×Toks))(e:Ending)(w':World):Prop :=
 Ext (·=bp) w w'∧match r with
 | none=>∃s T,∃v:EVal base w' T,e=.returned (.tuple #[.string s,.iface T v.1])
 | some (s,us)=>e=.returned (.tuple #[.string s,.nilIface])∧PS w' bp base us∧s.size+us.length*1000002≤2000000000000
def PathRel(bp base N:Nat)(w:World)(Rm:Option (ByteArray×Toks))(s:Value)(wr:World):Prop :=
 ∃g r vs,s=.string r∧Qcz g r vs=Rm∧vs.length<g∧Wf vs∧vs.length≤N∧PS wr bp base vs∧Ext (·=bp) w wr∧r.size+vs.length*1000002≤2000000000000
theorem pathL_w{bp base:Nat}(w:World)(ts:Toks)(r0:ByteArray)(g0:Nat)(hp:PS w bp base ts)(hwf:Wf ts)(hg0:ts.length<g0)(hbs:base≤w.heap.size)(hz:r0.size+ts.length*1000002≤2000000000000) :
  Calls prog 144 #[.pointer (some ⟨bp,0,none⟩),.string r0] w (StrP bp base w (Qcz g0 r0 ts)):=by
 have hbb:=hp.hbp;go_enter func144,ntmps144
 go_wp2_with fail
 go_loopw [6] (fun s wr=>PathRel bp base ts.length w (Qcz g0 r0 ts) s wr) (fun _ wr=>left wr bp)
 case atStart=>exact⟨g0,r0,ts,rfl,rfl,hg0,hwf,Xb _,hp,Ext.refl _ _,hz⟩
 case round =>
  clear hp hwf hg0 hz;obtain⟨wo,rfl⟩:∃wo:World,wo=wr:=⟨_,rfl⟩
  obtain⟨g,r1,vs,rfl,hg,hgl,hvw,hvN,hpv,hXr,hzr⟩:=hrel;have HG:=Hi hg;clear hg;cases g with
  | zero=>omega
  | succ g =>
  obtain⟨t,r,rfl⟩:∃t r,vs=t::r:=by cases vs with | nil=>exact absurd rfl hpv.ne | cons t r=>exact⟨t,r,rfl⟩
  have hlf:=hpv.left;have HLF:=Hi hlf;clear hlf
  go_wp2_with fail
  refine(Qa7 hpv).mono ?_;rintro e w2⟨rfl,hb2⟩;have hp2:=hpv.below hb2;have hX2:=hXr.trans (.below hb2);have hs2:=hb2.size;clear hb2 hpv hXr;cases ht:(t.tx.toList==[58,58])with
  | false =>
   have hres:Qcz g0 r0 ts=some (r1,t::r):=by rw[←HG.out,Qcz];simp[tx,ht]
   have HR:=Hi hres;clear hres;go_wp2
   go_ret2
   rw[HR.out];exact⟨hX2,rfl,hp2,hzr⟩
  | true =>
   have hav:(adv (t::r)).length<(t::r).length:=Qax hvw (s:=[58,58]) ht (by decide)
   go_wp2_with fail
   refine(Qaz hp2).mono ?_;rintro e w3⟨rfl,hp3,hX⟩;have hX3:=hX2.trans hX;have hs3:=hX.size;clear hX hX2 hp2;obtain⟨u,q,hu⟩:∃u q,adv (t::r)=u::q:=by cases h:adv (t::r)with | nil=>exact absurd h hvw.adv.ne | cons u q=>exact⟨u,q,rfl⟩
   rw[hu]at hp3 hav;have hwu:Wf (u::q):=hu▸hvw.adv;have huz:=hp3.sz;have HU:=Hi hu;clear hu
   go_wp2_with fail
   refine(Qaz hp3).mono ?_;rintro e w4⟨rfl,hp4,hX⟩;have hX4:=hX3.trans hX;clear hX hX3 hp3;have hu4:(adv (u::q)).length≤(u::q).length:=(Qam hwu).len
   go_upto_region 7 with(fail)
   obtain⟨w5,hw⟩:∃w5,w4.alloc (.cells u.row 122)=w5:=⟨_,rfl⟩
   rw[hw];have hb:Below w4.heap.size w4 w5:=by rw[←hw];exact Qab _ _
   have htok:w5.heap[w4.heap.size]? =some (.cells u.row 122 (0,0)):=by rw[←hw];exact Xa _ _
   have hp5:=hp4.below hb;have hX5:=hX4.trans (.below hb);have k0:w5.cell? ⟨w4.heap.size,0,none⟩=some (.int .i64 u.ty):=Qaa htok rfl;have k1:w5.cell? ⟨w4.heap.size,1,none⟩=some (.string u.fn):=Qaa htok rfl;have k2:w5.cell? ⟨w4.heap.size,2,none⟩=some (.int .i64 u.off):=Qaa htok rfl;have k3:w5.cell? ⟨w4.heap.size,3,none⟩=some (.int .i64 u.ln):=Qaa htok rfl;have k4:w5.cell? ⟨w4.heap.size,4,none⟩=some (.int .i64 u.col):=Qaa htok rfl
   have k5:w5.cell? ⟨w4.heap.size,5,none⟩=some (.string u.tx):=Qaa htok rfl;clear hw hb hp4 hX4 htok
   go_wp2_with fail
   refine(Qbd u _).mono ?_;rintro e w6⟨rfl,hb6⟩;have hp6:=hp5.below hb6;have hX6:=hX5.trans (.below hb6);have k5':=QbR hb6 (QcN k5) k5;clear hb6 hp5 hX5 k0 k1 k2 k3 k4 k5;cases hi:(u.ty==1)with
   | false =>
    go_wp2_with fail
    refine(Qay hp6 _ _).mono ?_;rintro e w7⟨T,v,rfl,hb7⟩;have hX7:=hX6.trans (.below hb7);have hres:Qcz g0 r0 ts=none:=by rw[←HG.out,Qcz];simp[tx,ht,HU.out,ty,hd,hi]
    have HR:=Hi hres;clear hres;clear hb7 hX6;go_wp2
    go_ret2
    rw[HR.out];exact⟨hX7,_,_,_,rfl⟩
   | true =>
    have hres:Qcz g0 r0 ts=Qcz g (r1++(⟨#[58,58]⟩:ByteArray)++u.tx) (adv (u::q)):=by rw[←HG.out,Qcz];simp[tx,ht,HU.out,ty,hd,hi]
    have HR:=Hi hres;clear hres;go_wp2;refine⟨⟨g,_,_,rfl,HR.out.symm,by omega,hwu.adv,by omega,hp6,hX6,?_⟩,by rw[hp6.left,HLF.out];omega⟩;have e2:(⟨#[58,58]⟩:ByteArray).size=2:=rfl;rw[ByteArray.size_append,ByteArray.size_append,e2];omega
theorem Qg7{bp base:Nat}(w:World)(ts:Toks)(hp:PS w bp base ts)(hwf:Wf ts)(hbs:base≤w.heap.size) :
  Calls prog 98 #[.pointer (some ⟨bp,0,none⟩)] w (StrP bp base w (path ts)):=by
 have hbb:=hp.hbp;obtain⟨u,q,rfl⟩:∃u q,ts=u::q:=by cases ts with | nil=>exact absurd rfl hp.ne | cons u q=>exact⟨u,q,rfl⟩
 have huz:=hp.sz;have hle:=hp.len;have hav:(adv (u::q)).length≤(u::q).length:=(Qam hwf).len;go_enter func98,ntmps98
 go_wp2_with fail
 refine(Qaz hp).mono ?_;rintro e w4⟨rfl,hp4,hX4⟩;have hs4:=hX4.size
 go_upto_region 2 with(fail)
 obtain⟨w5,hw⟩:∃w5,w4.alloc (.cells u.row 122)=w5:=⟨_,rfl⟩
 rw[hw];have hb:Below w4.heap.size w4 w5:=by rw[←hw];exact Qab _ _
 have htok:w5.heap[w4.heap.size]? =some (.cells u.row 122 (0,0)):=by rw[←hw];exact Xa _ _
 have hs5:=hb.size;have hp5:=hp4.below hb;have hX5:=hX4.trans (.below hb);have k0:w5.cell? ⟨w4.heap.size,0,none⟩=some (.int .i64 u.ty):=Qaa htok rfl;have k1:w5.cell? ⟨w4.heap.size,1,none⟩=some (.string u.fn):=Qaa htok rfl;have k2:w5.cell? ⟨w4.heap.size,2,none⟩=some (.int .i64 u.off):=Qaa htok rfl;have k3:w5.cell? ⟨w4.heap.size,3,none⟩=some (.int .i64 u.ln):=Qaa htok rfl;have k4:w5.cell? ⟨w4.heap.size,4,none⟩=some (.int .i64 u.col):=Qaa htok rfl
 have k5:w5.cell? ⟨w4.heap.size,5,none⟩=some (.string u.tx):=Qaa htok rfl;clear hw hb hp4 hX4 htok hp
 go_wp2_with fail
 refine(Qbd u _).mono ?_;rintro e w6⟨rfl,hb6⟩;have hp6:=hp5.below hb6;have hX6:=hX5.trans (.below hb6);have hs6:=hb6.size;have k5':=QbR hb6 (QcN k5) k5;clear hb6 hp5 hX5 k0 k1 k2 k3 k4 k5;cases hi:(u.ty==1)with
 | false =>
  go_wp2_with fail
  refine(Qay hp6 _ _).mono ?_;rintro e w7⟨T,v,rfl,hb7⟩;have hX7:=hX6.trans (.below hb7);have hres:path (u::q)=none:=by unfold Pg.path;simp[ty,hd,hi]
  have HR:=Hi hres;clear hres;clear hb7 hX6;go_wp2
  go_ret2
  rw[HR.out];exact⟨hX7,_,_,_,rfl⟩
 | true =>
  have hres:path (u::q)=Qcz ((u::q).length+1) u.tx (adv (u::q)):=by unfold Pg.path;simp[ty,hd,hi]
  have HR:=Hi hres;clear hres
  go_wp2_with fail
  refine(pathL_w w6 _ u.tx ((u::q).length+1) hp6 hwf.adv (by omega) (by omega) (by omega)).mono ?_;rintro e w7⟨hX,hr⟩;have hX7:=hX6.trans hX;clear hX hX6 hp6 k5';cases hm:Qcz ((u::q).length+1) u.tx (adv (u::q))with
  | none =>
   rw[hm]at hr;obtain⟨s,T,v,rfl⟩:=hr;have HM:=Hi hm;clear hm;go_wp2
   go_ret2
   rw[HR.out,HM.out];exact⟨hX7,_,_,_,rfl⟩
  | some p =>
   obtain⟨s,us⟩:=p;rw[hm]at hr;obtain⟨rfl,hp7,hz7⟩:=hr;have HM:=Hi hm;clear hm;go_wp2
   go_ret2
   rw[HR.out,HM.out];exact⟨hX7,rfl,hp7,hz7⟩
end Go.Proofs.Pg
namespace Go.Proofs.Pg
open Go.RowKit
theorem Qkq{s:ByteArray}(h:0<s.size):1≤(Lib.decodeGo s).2∧(Lib.decodeGo s).2≤s.size:=by
 unfold Lib.decodeGo;rw[if_neg (by omega),Lib.decode_at];unfold Lib.decodeN
 repeat' split
 all_goals(simp only;omega)
theorem Qkr{s:ByteArray}{a:UInt8}{l:List UInt8}(h:s.data.toList=a::l)(ha:a.toNat<128):Lib.decodeGo s=(a.toNat,1):=by
 have hz:s.size=l.length+1:=by show s.data.size=_;rw[←Array.length_toList,h];rfl
 have hg:s.get! 0=a:=by
  show s.data[0]! = a;rw[getElem!_def,←Array.getElem?_toList,h];rfl
 unfold Lib.decodeGo;rw[if_neg (by omega),Lib.decode_at,hg];unfold Lib.decodeN;rw[if_pos ha]
theorem ext_drop{s:ByteArray}{p n:Nat}(h:p+n≤s.size):(s.extract p (p+n)).data.toList=(s.data.toList.drop p).take n:=by
 rw[ByteArray.data_extract,Array.toList_extract,List.extract_eq_take_drop,Nat.add_sub_cancel_left]
theorem ext_rest{s:ByteArray}{p:Nat}:(s.extract p s.size).data.toList=s.data.toList.drop p:=by
 rw[ByteArray.data_extract,Array.toList_extract,List.extract_eq_take_drop];exact List.take_of_length_le (by rw[List.length_drop];exact Xb _)
theorem dgo_at{s:ByteArray}{p n:Nat}{a:UInt8}{l:List UInt8}(h:p+n≤s.size)(hx:(s.extract p (p+n)).data.toList=a::l)(ha:a.toNat<128):p<s.size∧Lib.decodeGo (s.extract p s.size)=(a.toNat,1):=by
 rw[ext_drop h]at hx;cases hd:s.data.toList.drop p with
 | nil=>rw[hd]at hx;simp at hx
 | cons b r =>
  rw[hd]at hx;have hb:b=a:=by
   cases n with
   | zero=>simp at hx
   | succ n=>simp at hx;exact hx.1
  subst hb;refine⟨?_,Qkr (ext_rest.trans hd) ha⟩;have:=congrArg List.length hd;rw[List.length_drop,List.length_cons,Array.length_toList]at this;show p<s.data.size;omega
theorem Qj8{s:ByteArray}(h:s.size=0):Lib.decodeGo s=(65533,0):=by
 unfold Lib.decodeGo;rw[if_pos h]
end Go.Proofs.Pg
namespace Go.Proofs
open Go Go.Shelf Go.RowKit Go.Proofs.Tryz
def Tryz.lays196_ren:Go.Shelf.Ren:=⟨fun | 196=>48 | 259=>62 | n=>n,fun | 46=>162 | 53=>24 | 119=>158 | 138=>160 | 139=>161 | n=>n,fun | 3=>1 | 4=>2 | n=>n⟩
theorem Tryz.lays196:Go.Proofs.Lays.n196 prog Tryz.lays196_ren:=⟨by kernel_rfl,func48.trans (congrArg some (by kernel_rfl)),func62.trans (congrArg some (by kernel_rfl)),underlying0,isAgg0,sizeOf0,zeroValue0,underlying3,isAgg3,sizeOf3,zeroValue3,underlying4,isAgg4,sizeOf4,zeroValue4,underlying5,isAgg5,sizeOf5,zeroValue5,underlying9,isAgg9,sizeOf9,zeroValue9,underlying12,isAgg12,sizeOf12,zeroValue12,underlying162,isAgg162,sizeOf162,zeroValue162,underlying24,isAgg24,sizeOf24,zeroValue24,underlying158,isAgg158,sizeOf158,underlying160,isAgg160,sizeOf160,zeroValue160,underlying161,isAgg161,sizeOf161,zeroValue161,by kernel_rfl,by kernel_rfl⟩
theorem Tryz.utf8_ValidString(s:ByteArray)(w:World)(hs:s.size≤9223372036854775807)(hT:Lib.Utf8Tabs 1 2 w) :
  Calls prog 48 #[.string s] w fun e w'=>e=.returned (.bool (Lib.validD s.data.toList))∧Below w.heap.size w w':=Any.utf8_ValidString Tryz.lays196 s w hs hT
end Go.Proofs
namespace Go.Proofs.Pg
open Go.RowKit Go.Proofs.Tryz
attribute [local go_sem] Oper.semAt_some
theorem Qiz(s:ByteArray):s.toList=s.data.toList:=by have:=ByteArray.toList_mk s.data.toList;simpa using this
def Qks(Q:Bool→Prop)(w:World)(e:Ending)(w':World):Prop:=(∃b,e=.returned (.bool b)∧Q b)∧Below w.heap.size w w'
theorem QiK(s:ByteArray)(hs:s.size≤5000)(w:World){B:Bool}(hV:Calls prog 48 #[.string s] w fun e w'=>e=.returned (.bool B)∧Below w.heap.size w w'):Calls prog 35 #[.string s] w (Qks (fun _=>True) w):=by
 go_enter func35,ntmps35;go_wp2
 go_loopw [3] (fun s3 wr=>∃k:Nat,s3=.int .i64 k∧k≤s.size∧wr=w) (fun s3 _=>s.size-(intOf s3).toNat)
 case atStart=>exact⟨0,rfl,Nat.zero_le _,rfl⟩
 case round =>
  obtain⟨k,rfl,hk,rfl⟩:=hrel;by_cases h:k+2<s.size
  ·have h1:(k:Int)+2<(s.size:Int):=by omega
   have h3:k+3≤s.size:=by omega
   go_wp2_with fail
   all_goals first
    | exact⟨⟨k+1,rfl,by omega,trivial⟩,by simp[intOf];omega⟩
    | (go_ret;exact⟨⟨_,rfl,trivial⟩,Below.refl _ _⟩)
  ·have h1:¬(k:Int)+2<(s.size:Int):=by omega
   go_wp2_with fail
   refine hV.mono ?_;rintro e w1⟨rfl,hb⟩;go_wp2;go_ret;exact⟨⟨_,rfl,trivial⟩,hb⟩
end Go.Proofs.Pg
