/- FnPolicyCut, part 13. -/
import Derived.Test.YtmhjkkkhdlnngaaGreatDoorP04
import Derived.Laws.BitsLemmas
set_option linter.all false
set_option maxRecDepth 100000
set_option maxHeartbeats 0
namespace Go.Proofs.Pg
open Go.RowKit Go.Lib Go.Proofs.Tryz
attribute [local go_sem] Oper.semAt_some
theorem Qdu(l:List UInt8)(b off cap:Nat)(w:World)(hT:Utf8Tabs 1 2 w)(hc:BytesAt w b off l)(hb:b<w.heap.size)(hlen:l.length≤2000000) :
  Calls prog 161 #[.slice (some ⟨b,off,none⟩) l.length cap] w fun e w'=>e=.returned (.tuple #[.int .i32 (dec l).1,.int .i64 (dec l).2])∧Below w.heap.size w w':=by
 have HS:Hid (Calls prog 182 #[.slice (some ⟨b,off,none⟩) l.length cap] w fun e w'=>e=.returned (.tuple #[.int .i32 (dec l).1,.int .i64 (dec l).2])∧Below w.heap.size w w'):=Hi (slow182 l b off cap w hT hc hb);by_cases h0:l.length=0
 ·have hz:¬((0:Int)<(l.length:Int)):=by omega
  have hz2:¬0<l.length:=by omega
  rw[h0]at HS ⊢;clear h0 hz hz2 hc hT;go_enter func161,ntmps161;go_wp2;refine wp_loop_rounds 1 ?_;rw[rounds_succ]
  go_wp2_with(go_at_call 182;refine HS.out.mono ?_;rintro e w' ⟨rfl,hB⟩)
  go_ret2
  exact⟨rfl,hB⟩
 ·have hz:(0:Int)<(l.length:Int):=by omega
  have hz2:0<l.length:=by omega
  have c0:=hc 0 hz2;rw[Nat.add_zero]at c0;have hx:=(l.getD 0 0).toNat_lt;by_cases ha:(l.getD 0 0).toNat<128
  ·have hd:dec l=((l.getD 0 0).toNat,1):=by
    unfold dec;rw[if_neg (by omega)];unfold Lib.decodeN;rw[if_pos ha]
   rw[hd];clear hd HS hc hT;have ha':((l.getD 0 0).toNat:Int)<128:=by omega
   generalize l.getD 0 0=x at *;generalize l.length=n at *;go_enter func161,ntmps161;go_wp2;refine wp_loop_rounds 1 ?_;rw[rounds_succ];go_wp2
   go_ret2
   exact⟨rfl,Below.refl _ _⟩
  ·have ha':¬((l.getD 0 0).toNat:Int)<128:=by omega
   clear hc hT;generalize (l.getD 0 0)=x at *;generalize hd1:dec l=d at *;clear hd1;generalize l.length=n at *;go_enter func161,ntmps161;go_wp2;refine wp_loop_rounds 1 ?_;rw[rounds_succ]
   go_wp2_with(go_at_call 182;refine HS.out.mono ?_;rintro e w' ⟨rfl,hB⟩)
   go_ret2
   exact⟨rfl,hB⟩
theorem Qhg(a:Option Addr)(cap:Nat)(w:World):Calls prog 158 #[.slice a 0 cap] w fun e w'=>e=.returned (.bool false)∧w'=w:=by
 go_enter func158,ntmps158;go_wp2;go_ret;exact⟨rfl,rfl⟩
theorem Qhh(l:List UInt8)(b off cap:Nat)(w:World)(hT:Utf8Tabs 1 2 w)(hc:BytesAt w b off l)(hb:b<w.heap.size)(hz:l.length≠0) :
  Calls prog 158 #[.slice (some ⟨b,off,none⟩) l.length cap] w fun e w'=>(∃r:Bool,e=.returned (.bool r)∧(r=true→∀n y1 y2 y3,l.length≤n→y1<256→y2<256→y3<256→(1<l.length→y1=(l.getD 1 0).toNat)→(2<l.length→y2=(l.getD 2 0).toNat)→(3<l.length→y3=(l.getD 3 0).toNat) →
  Lib.decodeN n (l.getD 0 0).toNat y1 y2 y3=Lib.decodeN l.length (l.getD 0 0).toNat (l.getD 1 0).toNat (l.getD 2 0).toNat (l.getD 3 0).toNat))∧Below w.heap.size w w':=full158 l b off cap w hT hc hb hz
end Go.Proofs.Pg
