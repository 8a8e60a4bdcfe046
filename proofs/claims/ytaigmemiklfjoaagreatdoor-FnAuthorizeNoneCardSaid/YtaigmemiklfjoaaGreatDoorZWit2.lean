/- Part of the proof of FnAuthorizeNone: without policies no request is allowed; for every world that comes in. -/
import Derived.Test.YtaigmemiklfjoaaGreatDoorZRow
set_option linter.unusedSimpArgs false
set_option linter.unusedVariables false
set_option linter.unnecessarySimpa false
namespace Go.Proofs.YtaigmemiklfjoaaGreatDoor
open Go.ChangeShapes Go.WideShapes Go.ChangeAt Go.RowKit Go.Proofs.Exp
set_option maxRecDepth 100000
abbrev noData {H : Type} : DataW H := .agg [.nil, .agg [.lit (.string []), .lit (.string [])], .agg [.lit (.string []), .lit (.string [])], .agg [.lit (.string []), .lit (.string [])], .agg [.lit (.int .i64 0), .lit (.int .i64 0), .lit (.string []), .lit (.string []), .nil, .nil]]
theorem reads (os : Os) {H : Type} (enc : TypeId × Value → H) : DataW.whole enc Tryz.prog ((laidWorld os).forCall (fun _ _ => 0) ⟨#[], #[noWorld], []⟩).memory Tryz.f3.params.toList Rows.fnAuthorizeNoneSpec.vars false #[noWorld].toList 8 = some ([noData], [], []) := by kernel_rfl
end Go.Proofs.YtaigmemiklfjoaaGreatDoor
