/- Part of the proof of FnAuthorizeNone: without policies no request is allowed; for every world that comes in. -/
import Derived.Test.YtaigmemiklfjoaaGreatDoorZSaid
import Derived.Test.YtaigmemiklfjoaaGreatDoorZGoes
import Derived.Test.YtaigmemiklfjoaaGreatDoorZCardF
import Derived.Test.YtaigmemiklfjoaaGreatDoorZA1
import Derived.Test.YtaigmemiklfjoaaGreatDoorZA2
import Derived.Test.YtaigmemiklfjoaaGreatDoorZA3
import Derived.Test.YtaigmemiklfjoaaGreatDoorZA4
import Derived.Test.YtaigmemiklfjoaaGreatDoorZA5
import Derived.Test.YtaigmemiklfjoaaGreatDoorCards
set_option linter.unusedSimpArgs false
set_option linter.unusedVariables false
set_option linter.unnecessarySimpa false
namespace Go.Proofs.YtaigmemiklfjoaaGreatDoor
open Go Go.ChangeShapes Go.WideShapes Go.ChangeAt Go.RowKit
set_option maxRecDepth 100000
theorem tieOwn : Tryz.prog.laidByTextLater laidL [.sentinel, .sentinel, .data, .sentinel, .sentinel, .sentinel, .data, .data, .data] true :=
  Program.laidByTextLater_by_run 400 8 a1 a2 a3 a4 a5 a6 b1 b2 b3
theorem rowTie : Rows.fnAuthorizeNoneRow.laidByTextAt .later Tryz.pinned [.sentinel, .sentinel, .data, .sentinel, .sentinel, .sentinel, .data, .data, .data] true :=
  OpenClaim.laidByTextAt_later rfl rfl tieOwn noUnsafe
/-- No parameter wants a stand-in; the program's own looks: what the card asks. -/
theorem plain (f : FuncId) (fn : Func) (hf : Tryz.pinned.checked.prog.funcNamed "pub-claviger/laws.FnAuthorizeNone" = some f) (hfn : Tryz.pinned.checked.prog.funcs[f]? = some fn) :
    true = Tryz.pinned.checked.prog.looks [] ∧ ∀ (j : Nat) t, fn.params[j]? = some t → Tryz.pinned.checked.prog.wantsStandIn t = false := by
  obtain rfl : f = 3 := Option.some.inj (named3.symm.trans hf) |>.symm
  obtain rfl : fn = Tryz.f3 := (Option.some.inj (Tryz.func3.symm.trans hfn)).symm
  refine ⟨lookSo, fun j t ht => ?_⟩
  rw [Tryz.params3] at ht
  obtain rfl : t = 30 := by simpa using Array.mem_of_getElem? ht
  exact stand30
/-- THE CARD. -/
theorem card : Rows.FnAuthorizeNoneCardSaid :=
  Claim7.holds_tied_plain_at .later [] [.sentinel, .sentinel, .data, .sentinel, .sentinel, .sentinel, .data, .data, .data] true (true, "c60750fc703196d5a1bc794bd544f38032d43bfd8d89cc76f4cb255439506e42") true
    said (fun _ h => by cases h) wByText (fun _ h => by cases h) rowTie rfl ⟨rfl, rfl⟩ mainSo rfl plain goesSo
end Go.Proofs.YtaigmemiklfjoaaGreatDoor
