/- FnDecodeAll, part 19. -/
import Derived.Test.YtmhjkkkhdlnngaaGreatDoorZ18
set_option linter.all false
set_option maxRecDepth 100000
set_option maxHeartbeats 0
namespace Go.Proofs.Pg
open Go.RowKit Go.Proofs.Tryz
def numM:Lib.NumEnd Int→Option Int
 | .ok v=>some v
 | _=>none
def intM(s:ByteArray):Option Int:=numM (Lib.parseIntB 64 s.data.toList)
theorem int_c(s:ByteArray)(w:World)(hg:Glob w)(h15:15≤w.heap.size)(hs:s.size≤1000001){base:Nat}:Calls prog 246 #[.string s,.int .i64 10,.int .i64 64] w (IntV base w (intM s)):=by
 unfold intM;obtain⟨r,hr⟩:∃r,Lib.parseIntB 64 s.data.toList=r:=⟨_,rfl⟩
 rw[hr];rcases r with v | _ | _
 ·have hc:=Tryz.strconv_ParseInt_10_at64_ok s (by omega) v hr w
  refine hc.mono ?_;intro e w' h2;obtain⟨he,hw⟩:=h2;refine⟨?_,he⟩;rcases hw with rfl | ⟨t,rfl⟩
  ·exact .refl _ _
  ·exact Lib.bytesWorld_below _ _ _
 ·obtain⟨T,p,hv⟩:=hg.e5
  have hc:=Tryz.strconv_ParseInt_10_at64_syn s (by omega) _ hr (fun v h=>by cases h) (fun h=>by cases h) _ w hv (.inr ⟨T,p,rfl⟩);refine hc.mono ?_;intro e w' h2;obtain⟨N,he,h3⟩:=h2;exact⟨h3.2.2,_,_,⟨_,.inl (by decide)⟩,he⟩
 ·obtain⟨T,p,hv⟩:=hg.e6
  have hc:=Tryz.strconv_ParseInt_10_at64_range s (by omega) hr _ w hv (.inr ⟨T,p,rfl⟩);refine hc.mono ?_;intro e w' h2;obtain⟨N,he,h3⟩:=h2;exact⟨h3.2.2,_,_,⟨_,.inl (by decide)⟩,he⟩
end Go.Proofs.Pg
