/- FnComma: a last comma changes nothing; for every world. Part 52. -/
import Derived.Test.YtmhjkkkhdlnngaaGreatDoorZ49
import Derived.Test.YtmhjkkkhdlnngaaGreatDoorZ50
import Derived.Test.YtmhjkkkhdlnngaaGreatDoorZ51
import Derived.Test.YtmhjkkkhdlnngaaGreatDoorTie
set_option linter.all false
set_option maxRecDepth 100000
set_option maxHeartbeats 40000000
namespace Go.Proofs.YtmhjkkkhdlnngaaGreatDoor
open Go Go.ChangeShapes Go.WideShapes Go.ChangeAt Go.RowKit
theorem plain(f:FuncId)(fn:Func)(hf:Tryz.pinned.checked.prog.funcNamed "pub-claviger/laws.FnComma"= some f)(hfn:Tryz.pinned.checked.prog.funcs[f]? =some fn) :
  true=Tryz.pinned.checked.prog.looks []∧∀(j:Nat) t,fn.params[j]? =some t→Tryz.pinned.checked.prog.wantsStandIn t=false:=by
 obtain rfl:f=3:=Option.some.inj (named3.symm.trans hf) |>.symm
 obtain rfl:fn=Tryz.f3:=(Option.some.inj (Tryz.func3.symm.trans hfn)).symm;refine⟨lookSo,fun j t ht=>?_⟩;rw[Tryz.params3]at ht;have hm:=Array.mem_of_getElem? ht;rcases(show t=22∨t=5 by simpa using hm)with rfl | rfl
 ·exact stand22
 ·exact stand5
theorem card:Rows.FnCommaCardSaid :=
 Claim7.holds_tied_plain_at .later [] [.data,.data,.data,.data,.data,.sentinel,.sentinel,.sentinel,.sentinel,.pinned] true (true, "024c4db319e1541550de9489c66de6622cf536deede84cf13ec5003370b2f236") true
  said (fun _ h=>by cases h) wByText (fun _ h=>by cases h) fnComma_row_tie rfl ⟨rfl,rfl⟩ mainSo rfl plain goesSo
end Go.Proofs.YtmhjkkkhdlnngaaGreatDoor
