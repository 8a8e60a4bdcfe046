/- FnPolicyCut, part 25. -/
import Derived.Test.YtmhjkkkhdlnngaaGreatDoorP20
import Derived.Test.YtmhjkkkhdlnngaaGreatDoorP22
set_option linter.all false
set_option maxRecDepth 100000
set_option maxHeartbeats 0
namespace Go.Proofs.Pg
open Go.RowKit
def lx:Lex:={str:=strM,int:=intM,ext:=fun s=>(extM s).map (·.2),pat:=patM}
theorem lexC:LexC lx where
 str t w hG h15 hz hb:=str_c t w hG h15 hz hb
 int s w hG h15 hs hb:=int_c s w hG h15 hs
 pat base s w hG h15 hb hz:=pat_c s w hG h15 hz base hb
end Go.Proofs.Pg
