/- FnComma: a last comma changes nothing; for every world. Part 45. -/
import Derived.Test.YtmhjkkkhdlnngaaGreatDoorZ42
import Derived.Test.YtmhjkkkhdlnngaaGreatDoorZ44
import Derived.ChangeSlices
import Derived.Lib.LaidU8T
import Derived.Stop.LaidErr
set_option linter.all false
set_option maxRecDepth 100000
set_option maxHeartbeats 40000000
namespace Go.Proofs.YtmhjkkkhdlnngaaGreatDoor
open Go
theorem tsize:Tryz.prog.types.size=480:=by kernel_rfl
theorem allA(u:Nat)(h:u<480):rowA u=true:=by
 have:0≤u∧u<60∨60≤u∧u<120∨120≤u∧u<180∨180≤u∧u<240∨240≤u∧u<300∨300≤u∧u<360∨360≤u∧u<420∨420≤u∧u<480:=by omega
 rcases this with h | h | h | h | h | h | h | h
 ·exact List.all_eq_true.1 ra0 u (List.mem_range'_1.2 (by omega))
 ·exact List.all_eq_true.1 ra1 u (List.mem_range'_1.2 (by omega))
 ·exact List.all_eq_true.1 ra2 u (List.mem_range'_1.2 (by omega))
 ·exact List.all_eq_true.1 ra3 u (List.mem_range'_1.2 (by omega))
 ·exact List.all_eq_true.1 ra4 u (List.mem_range'_1.2 (by omega))
 ·exact List.all_eq_true.1 ra5 u (List.mem_range'_1.2 (by omega))
 ·exact List.all_eq_true.1 ra6 u (List.mem_range'_1.2 (by omega))
 ·exact List.all_eq_true.1 ra7 u (List.mem_range'_1.2 (by omega))
theorem allB(u:Nat)(h:u<480):rowB u=true:=by
 have:0≤u∧u<60∨60≤u∧u<120∨120≤u∧u<180∨180≤u∧u<240∨240≤u∧u<300∨300≤u∧u<360∨360≤u∧u<420∨420≤u∧u<480:=by omega
 rcases this with h | h | h | h | h | h | h | h
 ·exact List.all_eq_true.1 rb0 u (List.mem_range'_1.2 (by omega))
 ·exact List.all_eq_true.1 rb1 u (List.mem_range'_1.2 (by omega))
 ·exact List.all_eq_true.1 rb2 u (List.mem_range'_1.2 (by omega))
 ·exact List.all_eq_true.1 rb3 u (List.mem_range'_1.2 (by omega))
 ·exact List.all_eq_true.1 rb4 u (List.mem_range'_1.2 (by omega))
 ·exact List.all_eq_true.1 rb5 u (List.mem_range'_1.2 (by omega))
 ·exact List.all_eq_true.1 rb6 u (List.mem_range'_1.2 (by omega))
 ·exact List.all_eq_true.1 rb7 u (List.mem_range'_1.2 (by omega))
theorem star : "*"++ "errors.errorString"= "*errors.errorString":= by decide
theorem Qio(u:TypeId)(h:Tryz.prog.typeName? 3 u=some "*errors.errorString"):u=346:=by
 refine typeName_ptr_named (nm := "errors.errorString") ?_ ?_ (by decide) u (by rw[star];exact h)
 ·rw[star,List.all_eq_true]
  intro u hu;exact allA u (by rw[←tsize];exact List.mem_range.1 hu)
 ·rw[List.all_eq_true]
  intro u hu;exact allB u (by rw[←tsize];exact List.mem_range.1 hu)
end Go.Proofs.YtmhjkkkhdlnngaaGreatDoor
namespace Go.Proofs.YtmhjkkkhdlnngaaGreatDoor
open Go.ChangeShapes Go.WideShapes Go.ChangeAt Go.RowKit Go.Lib Go.Proofs.Pg
theorem own:ownKnob Tryz.prog.godebug=none:=by kernel_rfl
abbrev lay:List (String×DataW Unit):=Rows.fnCommaRow.laid
def ren:Go.Shelf.Ren:=⟨fun n=>n,fun | 119=>158 | 138=>160 | 139=>161 | n=>n,fun | 3=>1 | 4=>2 | n=>n⟩
theorem u8t:U8Types Tryz.prog ren:=⟨by kernel_rfl,by kernel_rfl,by kernel_rfl,by kernel_rfl⟩
theorem u8x:U8Extra Tryz.prog ren:=⟨by kernel_rfl,by kernel_rfl,by kernel_rfl,by kernel_rfl,by kernel_rfl,by kernel_rfl,by kernel_rfl⟩
theorem heap14:(((begin Tryz.prog (fun _ _=>0) default).world.heap[14]?).bind Obj.row?).isSome=true:=by kernel_rfl
theorem glob_of{W:World}(hL:laidMet Tryz.prog lay W)(hS:W.ShapedOpen Tryz.prog):WG W:=by
 have h5:=hL.tail.tail.tail.tail.tail;obtain⟨a6,_,hv6,_⟩:=laid_sentinel (g:=6) h5 (by kernel_rfl) (by kernel_rfl) Tryz.underlying104 Qio Tryz.underlying346 Tryz.underlying348 rfl rfl Tryz.underlying9 (by kernel_rfl) (by kernel_rfl);obtain⟨a5,_,hv5,_⟩:=laid_sentinel (g:=5) h5.tail (by kernel_rfl) (by kernel_rfl) Tryz.underlying104 Qio Tryz.underlying346 Tryz.underlying348 rfl rfl Tryz.underlying9 (by kernel_rfl) (by kernel_rfl)
 obtain⟨a0,_,hv0,_⟩:=laid_sentinel (g:=0) h5.tail.tail (by kernel_rfl) (by kernel_rfl) Tryz.underlying104 Qio Tryz.underlying346 Tryz.underlying348 rfl rfl Tryz.underlying9 (by kernel_rfl) (by kernel_rfl);have hU:Lib.Utf8Tabs 1 2 W:=utf8Tabs_of_readsT u8t u8x (Lib.laidMet.reads hL (.tail _ (.tail _ (.tail _ (.tail _ (.tail _ (.tail _ (.tail _ (.tail _ (.tail _ (.head _))))))))))) (Lib.laidMet.reads hL (.tail _ (.tail _ (.tail _ (.head _)))))
 have c0:W.cell? ⟨0,0,none⟩=some (.iface 346 (.pointer (some a0))):=World.var?_cell (by kernel_rfl) hv0 0;have c5:W.cell? ⟨5,0,none⟩=some (.iface 346 (.pointer (some a5))):=World.var?_cell (by kernel_rfl) hv5 0;have c6:W.cell? ⟨6,0,none⟩=some (.iface 346 (.pointer (some a6))):=World.var?_cell (by kernel_rfl) hv6 0;refine⟨⟨hU,⟨_,c0⟩,⟨_,_,c5⟩,⟨_,_,c6⟩⟩,⟨a0,c0⟩,?_⟩;obtain⟨⟨z,t⟩,hz⟩:=Option.isSome_iff_exists.1 heap14
 obtain⟨cs,h14,_⟩:=hS.1 14 z t (of_decide_eq_true (by kernel_rfl)) hz;have:=Qad h14;omega
theorem laidT:laidOutB Tryz.prog=true:=by kernel_rfl
theorem rec22:Tryz.prog.readableRec 22=true:=by kernel_rfl
theorem row22:(22:TypeId)<Tryz.prog.types.size:=of_decide_eq_true (by kernel_rfl)
theorem rec5:Tryz.prog.readableRec 5=true:=by kernel_rfl
theorem row5:(5:TypeId)<Tryz.prog.types.size:=of_decide_eq_true (by kernel_rfl)
theorem cells25:Tryz.prog.cellsOf 25=1:=by kernel_rfl
theorem u32_wf{n:Int}(h:(Lit.int .u32 n).wf=true):0≤n∧n<4294967296:=by
 simp[Lit.wf,IntKind.min,IntKind.max,IntKind.signed,IntKind.bits]at h;omega
theorem u8_wf{n:Int}(h:(Lit.int .u8 n).wf=true):0≤n∧n<256:=by
 simp[Lit.wf,IntKind.min,IntKind.max,IntKind.signed,IntKind.bits]at h;omega
theorem contract(H:Type)(enc:TypeId×Value→H)(W:World)(base:Nat)(args:Array Value)(ds gs:List (DataW H))(before:List MemPlace)
  (hval:∀(j:Nat) t v,Tryz.f3.params[j]? =some t→args[j]? =some v→Value.okWide Tryz.prog W .any base t v)
  (hW:DataW.Whole enc Tryz.prog Tryz.f3.params.toList Rows.fnCommaSpec.vars false W args.toList ds gs before)
  (hL:laidMetH Tryz.prog Rows.fnCommaRow.laid W)(hS:W.ShapedOpen Tryz.prog) :
  Calls Tryz.prog 3 args W fun e W'=>∃v,e=.returned v∧Rows.fnCommaSpec.post enc Tryz.prog Tryz.f3 false true false false W args v W':=by
 have hW':=hW;obtain⟨p,q,hA0,hV,rfl,hfz,hnd⟩:=hW;have hA:DataW.TrodAll enc Tryz.prog W 0 (fun _=>true) true Tryz.f3.params.toList args.toList ds p:=hA0;rw[Tryz.params3]at hA hval;obtain⟨v0,v1,d0,d1,p0,p1,rfl,rfl,rfl,h0,h1⟩:=trodAll_two hA;obtain⟨rfl,rfl⟩:=trodVars_none hV;clear hA0;obtain⟨a,len,cap,rfl⟩:=okWide_slice Tryz.underlying22 (hval 0 22 _ rfl rfl);obtain⟨k,rfl⟩:=okWide_int Tryz.underlying5 (hval 1 5 v1 rfl rfl)
 have hlt:∀x∈p0++p1,x.block<W.heap.size:=fun x hx=>hW'.lt x (List.mem_append_left _ hx)
 have hG:WG W:=glob_of hL hS;have hk:0≤k∧k<256:=by
  obtain⟨f1,h1'⟩:=h1;obtain⟨z,e1,_,wz⟩:=DataW.trod_int Tryz.underlying5 h1';simp[Value.cells]at e1;subst e1;exact u8_wf wz
 have key:Calls Tryz.prog 3 #[.slice a len cap,.int .u8 k] W (SeP W):=by
  rw[show k=((k.toNat:Nat):Int)by omega];obtain⟨fuel,hf⟩:=h0;rcases open_ints Tryz.underlying22 Tryz.underlying25 cells25 hf with⟨hcs,_⟩ | ⟨a',len',cap',zs,hcs,_,hl,hm,hz,_,hcell,hwz⟩
  ·simp[Value.cells]at hcs
   obtain⟨rfl,rfl,rfl⟩:=hcs;exact Qin W hG none 0 0 k.toNat (by omega) (Nat.zero_le _) (fun _=>⟨[],rfl,fun i n h=>by simp at h⟩)
  ·simp[Value.cells]at hcs
   obtain⟨rfl,rfl,rfl⟩:=hcs;have hzl:zs.length=cap:=by simpa using hz
   refine Qin W hG (some a') cap len k.toNat (by omega) (by omega) (fun _=>⟨(zs.take len).map Int.toNat,by simp;omega,fun i n h=>?_⟩);rw[List.getElem?_map,Option.map_eq_some_iff]at h;obtain⟨z,hz1,rfl⟩:=h;have hi:i<zs.length:=by
    have:=(List.getElem?_eq_some_iff.1 hz1).1;rw[List.length_take]at this;omega
   have hz2:zs[i]? =some z:=by
    rw[List.getElem?_take]at hz1;split at hz1
    ·exact hz1
    ·cases hz1
   have hb:=u32_wf (hwz z (List.mem_of_getElem? hz2));have hc:=hcell i hi;have hd:zs.getD i 0=z:=by rw[List.getD_eq_getElem?_getD,hz2];rfl
   have hsp:=World.cell?_spot (hcell 0 (by omega));obtain⟨b,off,sp⟩:=a';have hsp':sp=none:=by
    cases sp with
    | none=>rfl
    | some s=>simp[Addr.add]at hsp
   subst hsp';rw[add_plain]at hc;refine⟨by omega,b,off,rfl,?_,?_⟩
   ·exact QcN hc
   ·rw[show((z.toNat:Nat):Int)=z by omega,←hd]
    exact hc
 refine key.mono fun e W' ⟨he,hb⟩=>?_
 subst he;refine⟨_,rfl,[d0,d1],[],p0++p1++[],[],p0++p1,[],hW',?_,?_,?_,hb.frame _,fun h=>by cases h⟩
 ·exact trodAll_mk1 (shut_bool Tryz.underlying4 true)
 ·exact trodAll_mk2 (Below.trod laidT rec22 row22 h0 hb (fun x hx=>hlt x (List.mem_append_left _ hx))) (Below.trod laidT rec5 row5 h1 hb (fun x hx=>hlt x (List.mem_append_right _ hx)))
 ·rfl
end Go.Proofs.YtmhjkkkhdlnngaaGreatDoor
namespace Go.Proofs.YtmhjkkkhdlnngaaGreatDoor
open Go.ChangeShapes Go.WideShapes Go.ChangeAt Go.RowKit Go.Lib
noncomputable def Qeq (c:Array Value):Obj→Obj
 | .cells _ t frozen=>.cells c t frozen
 | o=>o
noncomputable def laidHeap (S:Nat)(h:Array Obj):Array Obj:=(h
  |>.modify 0 (fun o=>Qeq #[.iface 346 (.pointer (some ⟨S+0,0,none⟩))] o)
  |>.modify 4 (fun o=>Qeq #[.iface 346 (.pointer (some ⟨S+1,0,none⟩))] o)
  |>.modify 5 (fun o=>Qeq #[.iface 346 (.pointer (some ⟨S+2,0,none⟩))] o)
  |>.modify 6 (fun o=>Qeq #[.iface 346 (.pointer (some ⟨S+3,0,none⟩))] o)
  |>.modify 1 (fun o=>Qeq (Lib.firstTab.map fun z=>Value.int .u8 z).toArray o)
  |>.modify 2 (fun o=>Qeq #[.int .u8 128,.int .u8 191,.int .u8 160,.int .u8 191,.int .u8 128,.int .u8 159,.int .u8 144,.int .u8 191,.int .u8 128,.int .u8 143,.int .u8 0,.int .u8 0,.int .u8 0,.int .u8 0,.int .u8 0,.int .u8 0,.int .u8 0,.int .u8 0,.int .u8 0,.int .u8 0,.int .u8 0,.int .u8 0,.int .u8 0,.int .u8 0,.int .u8 0,.int .u8 0,.int .u8 0,.int .u8 0,.int .u8 0,.int .u8 0,.int .u8 0,.int .u8 0] o)
  |>.modify 7 (fun o=>Qeq #[.int .u64 1,.int .u64 10,.int .u64 100,.int .u64 1000,.int .u64 10000,.int .u64 100000,.int .u64 1000000,.int .u64 10000000,.int .u64 100000000,.int .u64 1000000000,.int .u64 10000000000,.int .u64 100000000000,.int .u64 1000000000000,.int .u64 10000000000000,.int .u64 100000000000000,.int .u64 1000000000000000,.int .u64 10000000000000000,.int .u64 100000000000000000,.int .u64 1000000000000000000,.int .u64 10000000000000000000] o)
  |>.modify 8 (fun o=>Qeq #[.int .u8 0,.int .u8 1,.int .u8 28,.int .u8 2,.int .u8 29,.int .u8 14,.int .u8 24,.int .u8 3,.int .u8 30,.int .u8 22,.int .u8 20,.int .u8 15,.int .u8 25,.int .u8 17,.int .u8 4,.int .u8 8,.int .u8 31,.int .u8 27,.int .u8 13,.int .u8 23,.int .u8 21,.int .u8 19,.int .u8 16,.int .u8 7,.int .u8 26,.int .u8 12,.int .u8 18,.int .u8 6,.int .u8 11,.int .u8 5,.int .u8 10,.int .u8 9] o)
  |>.modify 9 (fun o=>Qeq #[.int .u8 0,.int .u8 1,.int .u8 56,.int .u8 2,.int .u8 57,.int .u8 49,.int .u8 28,.int .u8 3,.int .u8 61,.int .u8 58,.int .u8 42,.int .u8 50,.int .u8 38,.int .u8 29,.int .u8 17,.int .u8 4,.int .u8 62,.int .u8 47,.int .u8 59,.int .u8 36,.int .u8 45,.int .u8 43,.int .u8 51,.int .u8 22,.int .u8 53,.int .u8 39,.int .u8 33,.int .u8 30,.int .u8 24,.int .u8 18,.int .u8 12,.int .u8 5,.int .u8 63,.int .u8 55,.int .u8 48,.int .u8 27,.int .u8 60,.int .u8 41,.int .u8 37,.int .u8 16,.int .u8 46,.int .u8 35,.int .u8 44,.int .u8 21,.int .u8 52,.int .u8 32,.int .u8 23,.int .u8 11,.int .u8 54,.int .u8 26,.int .u8 40,.int .u8 15,.int .u8 34,.int .u8 20,.int .u8 31,.int .u8 10,.int .u8 25,.int .u8 14,.int .u8 19,.int .u8 9,.int .u8 13,.int .u8 8,.int .u8 7,.int .u8 6] o)
  |>.push (.cells #[.string ⟨#[69,79,70]⟩] 348)
  |>.push (.cells #[.string ⟨#[98,121,116,101,115,46,66,117,102,102,101,114,58,32,116,111,111,32,108,97,114,103,101]⟩] 348)
  |>.push (.cells #[.string ⟨#[105,110,118,97,108,105,100,32,115,121,110,116,97,120]⟩] 348)
  |>.push (.cells #[.string ⟨#[118,97,108,117,101,32,111,117,116,32,111,102,32,114,97,110,103,101]⟩] 348))
noncomputable def QbX (os:Os):World :=
 {World.holding Tryz.prog os ⟨#[],#[],[]⟩with heap:=laidHeap (World.holding Tryz.prog os ⟨#[],#[],[]⟩).heap.size (World.holding Tryz.prog os ⟨#[],#[],[]⟩).heap}
abbrev wargs:Array Value:=#[.slice none 0 0,.int .u8 0]
end Go.Proofs.YtmhjkkkhdlnngaaGreatDoor
