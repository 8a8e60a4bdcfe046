/- Part of the proof of FnAuthorizeNone: without policies no request is allowed; for every world that comes in. -/
import Derived.Test.YtaigmemiklfjoaaGreatDoorZWit1
import Derived.Test.YtaigmemiklfjoaaGreatDoorZWit2
import Derived.Test.YtaigmemiklfjoaaGreatDoorZWit3
set_option linter.unusedSimpArgs false
set_option linter.unusedVariables false
set_option linter.unnecessarySimpa false
namespace Go.Proofs.YtaigmemiklfjoaaGreatDoor
open Go.ChangeShapes Go.WideShapes Go.ChangeAt Go.RowKit Go.Proofs.Exp
set_option maxRecDepth 100000
theorem k_3 : (Tryz.f3.params.all (Tryz.prog.readableRec ·)) = true := by kernel_rfl
theorem k_15 : ((Rows.fnAuthorizeNoneRow.mapsOut == Tryz.prog.mapsAmong Tryz.f3.resultTypes.toList)) = true := by kernel_rfl
theorem k_23 : (Rows.fnAuthorizeNoneRow.shortTexts.isNone) = true := by kernel_rfl
theorem k_31 : (Rows.fnAuthorizeNoneRow.veiledFits Tryz.prog Tryz.f3.params.toList (Tryz.f3.params.toList ++ (OpenSpec.ofChange Rows.fnAuthorizeNoneSpec).bare.plain.varTypes Tryz.prog ++ Tryz.f3.resultTypes.toList)) = true := by kernel_rfl
end Go.Proofs.YtaigmemiklfjoaaGreatDoor
namespace Go.Proofs.YtaigmemiklfjoaaGreatDoor
open Go.ChangeShapes Go.WideShapes Go.ChangeAt Go.RowKit Go.Proofs.Exp
set_option maxRecDepth 100000
theorem k_6 : ((Tryz.prog.stops == [])) = true := by kernel_rfl
theorem k_18 : ((OpenSpec.ofChange Rows.fnAuthorizeNoneSpec).bare.vars.all (Tryz.prog.varReadable ·)) = true := by kernel_rfl
theorem k_26 : ((Rows.fnAuthorizeNoneRow.lifted == Tryz.prog.liftsFinal)) = true := by kernel_rfl
end Go.Proofs.YtaigmemiklfjoaaGreatDoor
namespace Go.Proofs.YtaigmemiklfjoaaGreatDoor
open Go.ChangeShapes Go.WideShapes Go.ChangeAt Go.RowKit Go.Proofs.Exp
set_option maxRecDepth 100000
theorem k_7 : ((Rows.fnAuthorizeNoneRow.knobs == [])) = true := by kernel_rfl
theorem k_19 : (Tryz.f3.resultTypes.all (fun t => Tryz.prog.readableRec t && decide (t < Tryz.prog.types.size))) = true := by kernel_rfl
theorem k_27 : ((Tryz.prog.make == some Rows.fnAuthorizeNoneRow.make)) = true := by kernel_rfl
end Go.Proofs.YtaigmemiklfjoaaGreatDoor
namespace Go.Proofs.YtaigmemiklfjoaaGreatDoor
open Go.ChangeShapes Go.WideShapes Go.ChangeAt Go.RowKit Go.Proofs.Exp
set_option maxRecDepth 100000
theorem k_8 : ((Tryz.prog.stopKnobs == [])) = true := by kernel_rfl
theorem k_20 : ((Rows.fnAuthorizeNoneRow.ifacesOut == Tryz.f3.resultTypes.toList.any (Tryz.prog.ifacesRec ·))) = true := by kernel_rfl
theorem k_28 : ((Rows.fnAuthorizeNoneRow.kinds == (if Rows.fnAuthorizeNoneRow.domain.isEmpty then [] else Tryz.f3.params.toList.map fun t => match Tryz.prog.underlying t with | some (.int k) => some k | _ => none))) = true := by kernel_rfl
end Go.Proofs.YtaigmemiklfjoaaGreatDoor
namespace Go.Proofs.YtaigmemiklfjoaaGreatDoor
open Go.ChangeShapes Go.WideShapes Go.ChangeAt Go.RowKit Go.Proofs.Exp
set_option maxRecDepth 100000
theorem k_13 : ((Rows.fnAuthorizeNoneRow.maps == (Tryz.f3.params.toList ++ (OpenSpec.ofChange Rows.fnAuthorizeNoneSpec).bare.plain.varTypes Tryz.prog).any (Tryz.prog.mapsRec ·))) = true := by kernel_rfl
theorem k_21 : ((Rows.fnAuthorizeNoneRow.loopsOut == Tryz.f3.resultTypes.toList.any (Tryz.prog.loopsFrom ·))) = true := by kernel_rfl
theorem k_29 : ((Rows.fnAuthorizeNoneRow.pinned == Rows.fnAuthorizeNoneRow.pinnedBy)) = true := by kernel_rfl
end Go.Proofs.YtaigmemiklfjoaaGreatDoor
namespace Go.Proofs.YtaigmemiklfjoaaGreatDoor
open Go.ChangeShapes Go.WideShapes Go.ChangeAt Go.RowKit Go.Proofs.Exp
set_option maxRecDepth 100000
theorem k_14 : ((Rows.fnAuthorizeNoneRow.ifaces == (Tryz.f3.params.toList ++ (OpenSpec.ofChange Rows.fnAuthorizeNoneSpec).bare.plain.varTypes Tryz.prog).any (Tryz.prog.ifacesRec ·))) = true := by kernel_rfl
theorem k_22 : ((Rows.fnAuthorizeNoneRow.plainKeys == Tryz.prog.plainKeys)) = true := by kernel_rfl
theorem k_30 : ((Rows.fnAuthorizeNoneRow.veiled == (Tryz.f3.params.toList ++ (OpenSpec.ofChange Rows.fnAuthorizeNoneSpec).bare.plain.varTypes Tryz.prog ++ Tryz.f3.resultTypes.toList).any (Tryz.prog.veiledRec ·))) = true := by kernel_rfl
end Go.Proofs.YtaigmemiklfjoaaGreatDoor
