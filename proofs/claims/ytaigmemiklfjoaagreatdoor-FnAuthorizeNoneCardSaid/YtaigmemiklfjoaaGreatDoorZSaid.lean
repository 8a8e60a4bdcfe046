/- Part of the proof of FnAuthorizeNone: without policies no request is allowed; for every world that comes in. -/
import Derived.Test.YtaigmemiklfjoaaGreatDoorZJ1
import Derived.Test.YtaigmemiklfjoaaGreatDoorZJ2
import Derived.Test.YtaigmemiklfjoaaGreatDoorZJ3
import Derived.Test.YtaigmemiklfjoaaGreatDoorZJ4
import Derived.Test.YtaigmemiklfjoaaGreatDoorZJ5
import Derived.Test.YtaigmemiklfjoaaGreatDoorZJ6
import Derived.Test.YtaigmemiklfjoaaGreatDoorZJ7
import Derived.Test.YtaigmemiklfjoaaGreatDoorZK1
import Derived.Test.YtaigmemiklfjoaaGreatDoorZK2
import Derived.Test.YtaigmemiklfjoaaGreatDoorZK3
set_option linter.unusedSimpArgs false
set_option linter.unusedVariables false
set_option linter.unnecessarySimpa false
namespace Go.Proofs.YtaigmemiklfjoaaGreatDoor
open Go.ChangeShapes Go.WideShapes Go.ChangeAt Go.RowKit Go.Proofs.Exp
set_option maxRecDepth 100000
theorem closed : joinedFacts Tryz.prog 3 Tryz.f3 (OpenSpec.ofChange Rows.fnAuthorizeNoneSpec).bare Rows.fnAuthorizeNoneRow = true := by
  unfold joinedFacts
  exact Bool.and_eq_true_iff.2 ⟨Bool.and_eq_true_iff.2 ⟨Bool.and_eq_true_iff.2 ⟨Bool.and_eq_true_iff.2 ⟨Bool.and_eq_true_iff.2 ⟨Bool.and_eq_true_iff.2 ⟨Bool.and_eq_true_iff.2 ⟨Bool.and_eq_true_iff.2 ⟨Bool.and_eq_true_iff.2 ⟨Bool.and_eq_true_iff.2 ⟨Bool.and_eq_true_iff.2 ⟨Bool.and_eq_true_iff.2 ⟨Bool.and_eq_true_iff.2 ⟨Bool.and_eq_true_iff.2 ⟨Bool.and_eq_true_iff.2 ⟨Bool.and_eq_true_iff.2 ⟨Bool.and_eq_true_iff.2 ⟨Bool.and_eq_true_iff.2 ⟨Bool.and_eq_true_iff.2 ⟨Bool.and_eq_true_iff.2 ⟨Bool.and_eq_true_iff.2 ⟨Bool.and_eq_true_iff.2 ⟨Bool.and_eq_true_iff.2 ⟨Bool.and_eq_true_iff.2 ⟨Bool.and_eq_true_iff.2 ⟨Bool.and_eq_true_iff.2 ⟨Bool.and_eq_true_iff.2 ⟨Bool.and_eq_true_iff.2 ⟨Bool.and_eq_true_iff.2 ⟨Bool.and_eq_true_iff.2 ⟨Bool.and_eq_true_iff.2 ⟨j_wf, laidT⟩, j_mapsRowed⟩, k_3⟩, k_4⟩, k_5⟩, k_6⟩, k_7⟩, k_8⟩, j_inPlace⟩, j_unf⟩, j_rec⟩, j_named⟩, k_13⟩, k_14⟩, k_15⟩, k_16⟩, k_17⟩, k_18⟩, k_19⟩, k_20⟩, k_21⟩, k_22⟩, k_23⟩, k_24⟩, k_25⟩, k_26⟩, k_27⟩, k_28⟩, k_29⟩, k_30⟩, k_31⟩
theorem said : Rows.FnAuthorizeNoneSaid :=
  OpenClaim.holds_of_cond 3 Tryz.f3 rfl rfl rfl rfl rfl rfl rfl ⟨rfl, rfl, rfl, rfl, rfl⟩ rfl rfl rfl rfl rfl j_named2 Tryz.func3 closed
    j_inst j_wrap
    (fun os started H enc _ F => by rw [OpenClaim.pre_eq_preRow]; exact lifted os started H enc F)
end Go.Proofs.YtaigmemiklfjoaaGreatDoor
