/- FnDecodeAll: a text that comes in pieces, whatever these are, is read one by one as the policies as which it is read at once, or refused where it is refused then: the tied card, for every input. -/
import Derived.Test.YtmhjkkkhdlnngaaGreatDoorZ40
import Derived.Test.YtmhjkkkhdlnngaaGreatDoorZ41
import Derived.Test.YtmhjkkkhdlnngaaGreatDoorZ43
import Derived.Test.YtmhjkkkhdlnngaaGreatDoorZ44
import Derived.Test.YtmhjkkkhdlnngaaGreatDoorZ45
import Derived.Test.YtmhjkkkhdlnngaaGreatDoorZ46
import Derived.Test.YtmhjkkkhdlnngaaGreatDoorZ47
import Derived.Test.YtmhjkkkhdlnngaaGreatDoorZ48
import Derived.Test.YtmhjkkkhdlnngaaGreatDoorZ49
import Derived.Test.YtmhjkkkhdlnngaaGreatDoorZ50
import Derived.Test.YtmhjkkkhdlnngaaGreatDoorZ51
import Derived.Test.YtmhjkkkhdlnngaaGreatDoorZ52
import Derived.Test.YtmhjkkkhdlnngaaGreatDoorTie
set_option linter.all false
set_option maxRecDepth 100000
set_option maxHeartbeats 0
namespace Go.Proofs.YtmhjkkkhdlnngaaGreatDoor
open Go.ChangeShapes Go.WideShapes Go.ChangeAt Go.RowKit Go.Lib Go.Proofs.Tryz
theorem lifted(os:Os)(started:os.Started)(H:Type)(enc:TypeId×Value→H)(F:Stop.Interp) :
  ReturnsInHanded {} Tryz.checked os 4 .any ((OpenSpec.ofChange Rows.fnDecodeAllSpec).preRow enc prog Tryz.f4 Rows.fnDecodeAllRow.domain false Rows.fnDecodeAllRow.laid) (((OpenSpec.ofChange Rows.fnDecodeAllSpec).at F).post enc prog Tryz.f4 false true false false):=by
 have hx:=reads os enc;refine returnsInHanded_of_row (C:=Tryz.checked) (s:=OpenSpec.ofChange Rows.fnDecodeAllSpec) own started (by kernel_rfl) func4
  (witness_row_atRef (enc:=enc) (C:=Tryz.checked) false (QbX os) wargs rfl (wit_vars os) (wit_run os) (wit_ok os)
   (OpenSpec.preRow_of_cond 8 hx (by kernel_rfl) (fun k hk=>by cases hk) (by kernel_rfl) (laid_met os))) ?_
 intro W base args ds gs before hval hW _ _ _ hL hS _;exact contract H enc W base args ds gs before hval hW hL hS
theorem closed:joinedFacts prog 4 Tryz.f4 (OpenSpec.ofChange Rows.fnDecodeAllSpec).bare Rows.fnDecodeAllRow=true:=by
 unfold joinedFacts;exact Bool.and_eq_true_iff.2 ⟨Bool.and_eq_true_iff.2 ⟨Bool.and_eq_true_iff.2 ⟨Bool.and_eq_true_iff.2 ⟨Bool.and_eq_true_iff.2 ⟨Bool.and_eq_true_iff.2 ⟨Bool.and_eq_true_iff.2 ⟨Bool.and_eq_true_iff.2 ⟨Bool.and_eq_true_iff.2 ⟨Bool.and_eq_true_iff.2 ⟨Bool.and_eq_true_iff.2 ⟨Bool.and_eq_true_iff.2 ⟨Bool.and_eq_true_iff.2 ⟨Bool.and_eq_true_iff.2 ⟨Bool.and_eq_true_iff.2 ⟨Bool.and_eq_true_iff.2 ⟨Bool.and_eq_true_iff.2 ⟨Bool.and_eq_true_iff.2 ⟨Bool.and_eq_true_iff.2 ⟨Bool.and_eq_true_iff.2 ⟨Bool.and_eq_true_iff.2 ⟨Bool.and_eq_true_iff.2 ⟨Bool.and_eq_true_iff.2 ⟨Bool.and_eq_true_iff.2 ⟨Bool.and_eq_true_iff.2 ⟨Bool.and_eq_true_iff.2 ⟨Bool.and_eq_true_iff.2 ⟨Bool.and_eq_true_iff.2 ⟨Bool.and_eq_true_iff.2 ⟨Bool.and_eq_true_iff.2 ⟨Bool.and_eq_true_iff.2 ⟨j_wf,laidT⟩,QeO⟩,k_3⟩,k_4⟩,k_5⟩,k_6⟩,k_7⟩,k_8⟩,Qgv⟩,j_unf⟩,j_rec⟩,j_named⟩,k_13⟩,k_14⟩,k_15⟩,k_16⟩,k_17⟩,k_18⟩,k_19⟩,k_20⟩,k_21⟩,k_22⟩,k_23⟩,k_24⟩,k_25⟩,k_26⟩,k_27⟩,k_28⟩,k_29⟩,k_30⟩,k_31⟩
theorem said:Rows.FnDecodeAllSaid :=
 OpenClaim.holds_of_cond 4 Tryz.f4 rfl rfl rfl rfl rfl rfl rfl ⟨rfl,rfl,rfl,rfl,rfl⟩ rfl rfl rfl rfl rfl j_named2 func4 closed
  j_inst j_wrap
  (fun os started H enc _ F=>by rw[OpenClaim.pre_eq_preRow];exact lifted os started H enc F)
end Go.Proofs.YtmhjkkkhdlnngaaGreatDoor
namespace Go.Proofs.YtmhjkkkhdlnngaaGreatDoor
open Go Go.ChangeShapes Go.WideShapes Go.ChangeAt Go.RowKit Go.Proofs.Tryz
theorem plain(f:FuncId)(fn:Func)(hf:Tryz.pinned.checked.prog.funcNamed "pub-claviger/laws.FnDecodeAll"= some f)(hfn:Tryz.pinned.checked.prog.funcs[f]? =some fn) :
  true=Tryz.pinned.checked.prog.looks []∧∀(j:Nat) t,fn.params[j]? =some t→Tryz.pinned.checked.prog.wantsStandIn t=false:=by
 obtain rfl:f=4:=Option.some.inj (named4.symm.trans hf) |>.symm
 obtain rfl:fn=Tryz.f4:=(Option.some.inj (func4.symm.trans hfn)).symm;refine⟨lookSo,fun j t ht=>?_⟩;rw[params4]at ht;have hm:=Array.mem_of_getElem? ht;rcases(show t=9∨t=38 by simpa using hm)with rfl | rfl
 ·exact stand9
 ·exact stand38
theorem card:Rows.FnDecodeAllCardSaid :=
 Claim7.holds_tied_plain_at .later [] [.data,.data,.data,.data,.data,.sentinel,.sentinel,.sentinel,.sentinel,.pinned] true (true, "024c4db319e1541550de9489c66de6622cf536deede84cf13ec5003370b2f236") true
  said (fun _ h=>by cases h) wByText (fun _ h=>by cases h) fnDecodeAll_row_tie rfl ⟨rfl,rfl⟩ mainSo rfl plain goesSo
end Go.Proofs.YtmhjkkkhdlnngaaGreatDoor
