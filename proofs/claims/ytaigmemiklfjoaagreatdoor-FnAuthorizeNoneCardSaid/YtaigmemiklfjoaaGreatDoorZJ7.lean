/- Part of the proof of FnAuthorizeNone: without policies no request is allowed; for every world that comes in. -/
import Derived.Test.YtaigmemiklfjoaaGreatDoorZWit1
import Derived.Test.YtaigmemiklfjoaaGreatDoorZWit2
import Derived.Test.YtaigmemiklfjoaaGreatDoorZWit3
set_option linter.unusedSimpArgs false
set_option linter.unusedVariables false
set_option linter.unnecessarySimpa false
namespace Go.Proofs.YtaigmemiklfjoaaGreatDoor
open Go.ChangeShapes Go.WideShapes Go.ChangeAt Go.RowKit Go.Proofs.Exp
set_option maxRecDepth 100000

theorem j_inst : Tryz.f3.isInstance Tryz.pinned.checked.prog Rows.fnAuthorizeNoneRow.origin Rows.fnAuthorizeNoneRow.targs := of_decide_eq_true (by kernel_rfl)
theorem j_wrap : Tryz.f3.isWrapper Tryz.pinned.checked.prog Rows.fnAuthorizeNoneRow.wrapper Rows.fnAuthorizeNoneRow.mainSum := by unfold Func.isWrapper; first | (rw [if_pos (by decide +kernel)]; kernel_rfl) | (rw [if_neg (by decide +kernel)]; exact ⟨rfl, rfl⟩)
end Go.Proofs.YtaigmemiklfjoaaGreatDoor
namespace Go.Proofs.YtaigmemiklfjoaaGreatDoor
open Go.ChangeShapes Go.WideShapes Go.ChangeAt Go.RowKit Go.Proofs.Exp
set_option maxRecDepth 100000
theorem lifted (os : Os) (started : os.Started) (H : Type) (enc : TypeId × Value → H) (F : Stop.Interp) :
    ReturnsInHanded {} Tryz.checked os 3 .any ((OpenSpec.ofChange Rows.fnAuthorizeNoneSpec).preRow enc Tryz.prog Tryz.f3 Rows.fnAuthorizeNoneRow.domain false Rows.fnAuthorizeNoneRow.laid) (((OpenSpec.ofChange Rows.fnAuthorizeNoneSpec).at F).post enc Tryz.prog Tryz.f3 false true false false) := by
  have hx := reads os enc
  refine returnsInHanded_of_row (C := Tryz.checked) (s := OpenSpec.ofChange Rows.fnAuthorizeNoneSpec) own started (by kernel_rfl) Tryz.func3
    (witness_row_atRef (enc := enc) (C := Tryz.checked) false (laidWorld os) #[noWorld] rfl (wit_vars os) (wit_run os) (wit_ok os)
      (OpenSpec.preRow_of_cond 8 hx (by kernel_rfl) (fun k hk => by cases hk) (by kernel_rfl) (laid_met os))) ?_
  intro W base args ds gs before hval hW _ _ hz _ _ _
  exact contract H enc W base args ds gs before hval hW hz
end Go.Proofs.YtaigmemiklfjoaaGreatDoor
