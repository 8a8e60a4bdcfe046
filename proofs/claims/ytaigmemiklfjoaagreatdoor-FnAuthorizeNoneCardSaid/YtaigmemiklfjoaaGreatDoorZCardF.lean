/- Part of the proof of FnAuthorizeNone: without policies no request is allowed; for every world that comes in. -/
import Derived.Test.YtaigmemiklfjoaaGreatDoorZSaid
set_option linter.unusedSimpArgs false
set_option linter.unusedVariables false
set_option linter.unnecessarySimpa false
namespace Go.Proofs.YtaigmemiklfjoaaGreatDoor
set_option maxRecDepth 100000
theorem noUnsafe : Tryz.pinned.checked.prog.headLifts.contains "ownunsafe" = false := by kernel_rfl
theorem lookSo : true = Tryz.prog.looks [] := by kernel_rfl
theorem stand30 : Tryz.prog.wantsStandIn 30 = false := by kernel_rfl
theorem wByText : Rows.fnAuthorizeNoneRow.wfByText (OpenSpec.ofChange Rows.fnAuthorizeNoneSpec) = true := by kernel_rfl
theorem mainSo : Tryz.prog.mainIs = some (true, "c60750fc703196d5a1bc794bd544f38032d43bfd8d89cc76f4cb255439506e42".toList) := by kernel_rfl
end Go.Proofs.YtaigmemiklfjoaaGreatDoor
