/- Part of the proof of FnAuthorizeNone: without policies no request is allowed; for every world that comes in. -/
import Derived.Test.YtaigmemiklfjoaaGreatDoorZSaid
set_option linter.unusedSimpArgs false
set_option linter.unusedVariables false
set_option linter.unnecessarySimpa false
namespace Go.Proofs.YtaigmemiklfjoaaGreatDoor
set_option maxRecDepth 100000
theorem named3 : Tryz.prog.funcNamed "pub-claviger/laws.FnAuthorizeNone" = some 3 := by kernel_rfl
theorem noneGoes : Tryz.prog.funcs.any Func.goes = false := by kernel_rfl
theorem goesOf {P : Program} {func : String} {f : FuncId} (hn : P.funcNamed func = some f) (h : P.funcs.any Func.goes = false) : P.goesFrom func = false := by
  have hno : ∀ g : Nat, (P.funcs[g]?).any Func.goes = false := by
    intro g
    cases hg : P.funcs[g]? with
    | none => rfl
    | some fn =>
      have hm : fn ∈ P.funcs := Array.mem_of_getElem? hg
      have := Array.any_eq_false'.1 h fn hm
      simpa using this
  unfold Program.goesFrom
  rw [hn]
  show P.goes f = false
  unfold Program.goes
  rw [h, Bool.and_false, Bool.or_false, List.any_eq_false]
  intro g _
  rw [hno g]
  decide
theorem goesSo : false = Rows.fnAuthorizeNoneRow.goesBy Tryz.prog := by
  have h := goesOf named3 noneGoes
  show false = (Tryz.prog.goesFrom "pub-claviger/laws.FnAuthorizeNone" || false)
  rw [h]
  rfl
end Go.Proofs.YtaigmemiklfjoaaGreatDoor
