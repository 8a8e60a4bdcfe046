/- FnComma: a last comma changes nothing; for every world. Part 49. -/
import Derived.Test.YtmhjkkkhdlnngaaGreatDoorZ01
import Derived.Test.YtmhjkkkhdlnngaaGreatDoorZ02
import Derived.Test.YtmhjkkkhdlnngaaGreatDoorZ03
import Derived.Test.YtmhjkkkhdlnngaaGreatDoorZ04
import Derived.Test.YtmhjkkkhdlnngaaGreatDoorZ05
import Derived.Test.YtmhjkkkhdlnngaaGreatDoorZ06
import Derived.Test.YtmhjkkkhdlnngaaGreatDoorZ07
import Derived.Test.YtmhjkkkhdlnngaaGreatDoorZ08
import Derived.Test.YtmhjkkkhdlnngaaGreatDoorZ09
import Derived.Test.YtmhjkkkhdlnngaaGreatDoorZ10
import Derived.Test.YtmhjkkkhdlnngaaGreatDoorZ46
import Derived.Test.YtmhjkkkhdlnngaaGreatDoorZ47
import Derived.Test.YtmhjkkkhdlnngaaGreatDoorZ48
set_option linter.all false
set_option maxRecDepth 100000
set_option maxHeartbeats 40000000
namespace Go.Proofs.YtmhjkkkhdlnngaaGreatDoor
open Go.ChangeShapes Go.WideShapes Go.ChangeAt Go.RowKit Go.Lib
theorem lifted(os:Os)(started:os.Started)(H:Type)(enc:TypeId×Value→H)(F:Stop.Interp) :
  ReturnsInHanded {} Tryz.checked os 3 .any ((OpenSpec.ofChange Rows.fnCommaSpec).preRow enc Tryz.prog Tryz.f3 Rows.fnCommaRow.domain false Rows.fnCommaRow.laid) (((OpenSpec.ofChange Rows.fnCommaSpec).at F).post enc Tryz.prog Tryz.f3 false true false false):=by
 have hx:=reads os enc;refine returnsInHanded_of_row (C:=Tryz.checked) (s:=OpenSpec.ofChange Rows.fnCommaSpec) own started (by kernel_rfl) Tryz.func3
  (witness_row_atRef (enc:=enc) (C:=Tryz.checked) false (QbX os) wargs rfl (wit_vars os) (wit_run os) (wit_ok os)
   (OpenSpec.preRow_of_cond 8 hx (by kernel_rfl) (fun k hk=>by cases hk) (by kernel_rfl) (laid_met os))) ?_
 intro W base args ds gs before hval hW _ _ _ hL hS _;exact contract H enc W base args ds gs before hval hW hL hS
theorem closed:joinedFacts Tryz.prog 3 Tryz.f3 (OpenSpec.ofChange Rows.fnCommaSpec).bare Rows.fnCommaRow=true:=by
 unfold joinedFacts;exact Bool.and_eq_true_iff.2 ⟨Bool.and_eq_true_iff.2 ⟨Bool.and_eq_true_iff.2 ⟨Bool.and_eq_true_iff.2 ⟨Bool.and_eq_true_iff.2 ⟨Bool.and_eq_true_iff.2 ⟨Bool.and_eq_true_iff.2 ⟨Bool.and_eq_true_iff.2 ⟨Bool.and_eq_true_iff.2 ⟨Bool.and_eq_true_iff.2 ⟨Bool.and_eq_true_iff.2 ⟨Bool.and_eq_true_iff.2 ⟨Bool.and_eq_true_iff.2 ⟨Bool.and_eq_true_iff.2 ⟨Bool.and_eq_true_iff.2 ⟨Bool.and_eq_true_iff.2 ⟨Bool.and_eq_true_iff.2 ⟨Bool.and_eq_true_iff.2 ⟨Bool.and_eq_true_iff.2 ⟨Bool.and_eq_true_iff.2 ⟨Bool.and_eq_true_iff.2 ⟨Bool.and_eq_true_iff.2 ⟨Bool.and_eq_true_iff.2 ⟨Bool.and_eq_true_iff.2 ⟨Bool.and_eq_true_iff.2 ⟨Bool.and_eq_true_iff.2 ⟨Bool.and_eq_true_iff.2 ⟨Bool.and_eq_true_iff.2 ⟨Bool.and_eq_true_iff.2 ⟨Bool.and_eq_true_iff.2 ⟨Bool.and_eq_true_iff.2 ⟨j_wf,laidT⟩,QeO⟩,k_3⟩,k_4⟩,k_5⟩,k_6⟩,k_7⟩,k_8⟩,Qgv⟩,j_unf⟩,j_rec⟩,j_named⟩,k_13⟩,k_14⟩,k_15⟩,k_16⟩,k_17⟩,k_18⟩,k_19⟩,k_20⟩,k_21⟩,k_22⟩,k_23⟩,k_24⟩,k_25⟩,k_26⟩,k_27⟩,k_28⟩,k_29⟩,k_30⟩,k_31⟩
theorem said:Rows.FnCommaSaid :=
 OpenClaim.holds_of_cond 3 Tryz.f3 rfl rfl rfl rfl rfl rfl rfl ⟨rfl,rfl,rfl,rfl,rfl⟩ rfl rfl rfl rfl rfl j_named2 Tryz.func3 closed
  j_inst j_wrap
  (fun os started H enc _ F=>by rw[OpenClaim.pre_eq_preRow];exact lifted os started H enc F)
end Go.Proofs.YtmhjkkkhdlnngaaGreatDoor
