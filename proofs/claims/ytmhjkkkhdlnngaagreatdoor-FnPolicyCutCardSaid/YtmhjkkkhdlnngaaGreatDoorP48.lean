/- FnPolicyCut, part 48. -/
import Derived.Test.YtmhjkkkhdlnngaaGreatDoorP33
import Derived.Test.YtmhjkkkhdlnngaaGreatDoorP42
import Derived.Test.YtmhjkkkhdlnngaaGreatDoorP44
import Derived.Test.YtmhjkkkhdlnngaaGreatDoorP47
set_option linter.all false
set_option maxRecDepth 100000
set_option maxHeartbeats 0
namespace Go.Proofs.YtmhjkkkhdlnngaaGreatDoor
open Go.ChangeShapes Go.WideShapes Go.ChangeAt Go.RowKit
theorem j_inst:Tryz.f9.isInstance Tryz.pinned.checked.prog Rows.fnPolicyCutRow.origin Rows.fnPolicyCutRow.targs:=of_decide_eq_true (by kernel_rfl)
theorem j_wrap:Tryz.f9.isWrapper Tryz.pinned.checked.prog Rows.fnPolicyCutRow.wrapper Rows.fnPolicyCutRow.mainSum:=by unfold Func.isWrapper;first | (rw[if_pos (by decide +kernel)];kernel_rfl) | (rw[if_neg (by decide +kernel)];exact⟨rfl,rfl⟩)
end Go.Proofs.YtmhjkkkhdlnngaaGreatDoor
namespace Go.Proofs.YtmhjkkkhdlnngaaGreatDoor
open Go.ChangeShapes Go.WideShapes Go.ChangeAt Go.RowKit Go.Lib Go.Proofs.Tryz
theorem lifted(os:Os)(started:os.Started)(H:Type)(enc:TypeId×Value→H)(F:Stop.Interp) :
  ReturnsInHanded {} Tryz.checked os 9 .any ((OpenSpec.ofChange Rows.fnPolicyCutSpec).preRow enc prog Tryz.f9 Rows.fnPolicyCutRow.domain false Rows.fnPolicyCutRow.laid) (((OpenSpec.ofChange Rows.fnPolicyCutSpec).at F).post enc prog Tryz.f9 false true false false):=by
 have hx:=reads os enc;refine returnsInHanded_of_row (C:=Tryz.checked) (s:=OpenSpec.ofChange Rows.fnPolicyCutSpec) own started (by kernel_rfl) func9
  (witness_row_atRef (enc:=enc) (C:=Tryz.checked) false (QbX os) wargs rfl (wit_vars os) (wit_run os) (wit_ok os)
   (OpenSpec.preRow_of_cond 8 hx (by kernel_rfl) (fun k hk=>by cases hk) (by kernel_rfl) (laid_met os))) ?_
 intro W base args ds gs before hval hW _ _ _ hL hS _;exact contract H enc W base args ds gs before hval hW hL hS
end Go.Proofs.YtmhjkkkhdlnngaaGreatDoor
