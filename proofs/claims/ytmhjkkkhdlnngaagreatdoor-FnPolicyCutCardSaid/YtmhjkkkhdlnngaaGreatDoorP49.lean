/- FnPolicyCut, part 49. -/
import Derived.Test.YtmhjkkkhdlnngaaGreatDoorP34
import Derived.Test.YtmhjkkkhdlnngaaGreatDoorP35
import Derived.Test.YtmhjkkkhdlnngaaGreatDoorP36
import Derived.Test.YtmhjkkkhdlnngaaGreatDoorP38
import Derived.Test.YtmhjkkkhdlnngaaGreatDoorP39
import Derived.Test.YtmhjkkkhdlnngaaGreatDoorP40
import Derived.Test.YtmhjkkkhdlnngaaGreatDoorP41
import Derived.Test.YtmhjkkkhdlnngaaGreatDoorP43
import Derived.Test.YtmhjkkkhdlnngaaGreatDoorP45
import Derived.Test.YtmhjkkkhdlnngaaGreatDoorP46
import Derived.Test.YtmhjkkkhdlnngaaGreatDoorP48
import Derived.Test.YtmhjkkkhdlnngaaGreatDoorTie
set_option linter.all false
set_option maxRecDepth 100000
set_option maxHeartbeats 0
namespace Go.Proofs.YtmhjkkkhdlnngaaGreatDoor
open Go.ChangeShapes Go.WideShapes Go.ChangeAt Go.RowKit Go.Lib Go.Proofs.Tryz
theorem closed:joinedFacts prog 9 Tryz.f9 (OpenSpec.ofChange Rows.fnPolicyCutSpec).bare Rows.fnPolicyCutRow=true:=by
 unfold joinedFacts;exact Bool.and_eq_true_iff.2 ⟨Bool.and_eq_true_iff.2 ⟨Bool.and_eq_true_iff.2 ⟨Bool.and_eq_true_iff.2 ⟨Bool.and_eq_true_iff.2 ⟨Bool.and_eq_true_iff.2 ⟨Bool.and_eq_true_iff.2 ⟨Bool.and_eq_true_iff.2 ⟨Bool.and_eq_true_iff.2 ⟨Bool.and_eq_true_iff.2 ⟨Bool.and_eq_true_iff.2 ⟨Bool.and_eq_true_iff.2 ⟨Bool.and_eq_true_iff.2 ⟨Bool.and_eq_true_iff.2 ⟨Bool.and_eq_true_iff.2 ⟨Bool.and_eq_true_iff.2 ⟨Bool.and_eq_true_iff.2 ⟨Bool.and_eq_true_iff.2 ⟨Bool.and_eq_true_iff.2 ⟨Bool.and_eq_true_iff.2 ⟨Bool.and_eq_true_iff.2 ⟨Bool.and_eq_true_iff.2 ⟨Bool.and_eq_true_iff.2 ⟨Bool.and_eq_true_iff.2 ⟨Bool.and_eq_true_iff.2 ⟨Bool.and_eq_true_iff.2 ⟨Bool.and_eq_true_iff.2 ⟨Bool.and_eq_true_iff.2 ⟨Bool.and_eq_true_iff.2 ⟨Bool.and_eq_true_iff.2 ⟨Bool.and_eq_true_iff.2 ⟨j_wf,laidT⟩,QeO⟩,k_3⟩,k_4⟩,k_5⟩,k_6⟩,k_7⟩,k_8⟩,Qgv⟩,j_unf⟩,j_rec⟩,j_named⟩,k_13⟩,k_14⟩,k_15⟩,k_16⟩,k_17⟩,k_18⟩,k_19⟩,k_20⟩,k_21⟩,k_22⟩,k_23⟩,k_24⟩,k_25⟩,k_26⟩,k_27⟩,k_28⟩,k_29⟩,k_30⟩,k_31⟩
theorem said:Rows.FnPolicyCutSaid :=
 OpenClaim.holds_of_cond 9 Tryz.f9 rfl rfl rfl rfl rfl rfl rfl ⟨rfl,rfl,rfl,rfl,rfl⟩ rfl rfl rfl rfl rfl j_named2 func9 closed
  j_inst j_wrap
  (fun os started H enc _ F=>by rw[OpenClaim.pre_eq_preRow];exact lifted os started H enc F)
end Go.Proofs.YtmhjkkkhdlnngaaGreatDoor
namespace Go.Proofs.YtmhjkkkhdlnngaaGreatDoor
open Go Go.ChangeShapes Go.WideShapes Go.ChangeAt Go.RowKit Go.Proofs.Tryz
theorem plain(f:FuncId)(fn:Func)(hf:Tryz.pinned.checked.prog.funcNamed "pub-claviger/laws.FnPolicyCut"= some f)(hfn:Tryz.pinned.checked.prog.funcs[f]? =some fn) :
  true=Tryz.pinned.checked.prog.looks []∧∀(j:Nat) t,fn.params[j]? =some t→Tryz.pinned.checked.prog.wantsStandIn t=false:=by
 obtain rfl:f=9:=Option.some.inj (named4.symm.trans hf) |>.symm
 obtain rfl:fn=Tryz.f9:=(Option.some.inj (func9.symm.trans hfn)).symm;refine⟨lookSo,fun j t ht=>?_⟩;rw[params9]at ht;have hm:=Array.mem_of_getElem? ht;rcases(show t=9∨t=71 by simpa using hm)with rfl | rfl
 ·exact stand9
 ·exact stand71
theorem card:Rows.FnPolicyCutCardSaid :=
 Claim7.holds_tied_plain_at .later [] [.data,.data,.data,.data,.data,.sentinel,.sentinel,.sentinel,.sentinel,.pinned] true (true, "024c4db319e1541550de9489c66de6622cf536deede84cf13ec5003370b2f236") true
  said (fun _ h=>by cases h) wByText (fun _ h=>by cases h) fnPolicyCut_row_tie rfl ⟨rfl,rfl⟩ mainSo rfl plain goesSo
end Go.Proofs.YtmhjkkkhdlnngaaGreatDoor
