/-
  DERIVED. GIVEN WITH THE SEED: THE CARDS: each row of YtaigmemiklfjoaaGreatDoorRows.lean that lists a variable, with what it lists TIED to the program's text (the seventh form; the later family's looks); each row that meets fmt, with fmt's text TOLD by the authors' own Lean function (tested against real Go, not proved from fmt's source: count such statements apart). THE CARD IS WHAT COUNTS. Prove the row's statement (the work); the ties are given (YtaigmemiklfjoaaGreatDoorTie.lean); close each card by the builder's one call (the guide's Derived/Test/ToyasCard.lean, 'card_holds'). Laid BY PROGRAM, IN A SANDBOX (cutbox-door.mjs). By AI agents, Wed Nov 11 2026. No macro, syntax, notation, axiom, sorry.
-/
import Derived.Test.YtaigmemiklfjoaaGreatDoorRows
import GoSem.ClaimSeven
namespace Go.Proofs.YtaigmemiklfjoaaGreatDoor
namespace Rows

/-- THE TIED CARD OF 'laws.FnAuthorizeNone'. -/
def fnAuthorizeNoneCard : Claim7 := { stood := { row := fnAuthorizeNoneRow, standIns := [], harness := (true, "c60750fc703196d5a1bc794bd544f38032d43bfd8d89cc76f4cb255439506e42"), looks := true }, kinds := [], alts := [], laidByText := true, laidKinds := [.sentinel, .sentinel, .data, .sentinel, .sentinel, .sentinel, .data, .data, .data], laidTests := true, laidLooks := .later }
def FnAuthorizeNoneCardSaid : Prop := Claim7.holds Tryz.pinned (.plain (OpenSpec.ofChange fnAuthorizeNoneSpec)) fnAuthorizeNoneCard

/-- THE SECOND FORM's CARD OF 'laws.FnAuthorizeNone'. -/
def fnAuthorizeNoneUptoCard : Claim7 := { stood := { row := fnAuthorizeNoneUptoRow, standIns := [], harness := (true, "c60750fc703196d5a1bc794bd544f38032d43bfd8d89cc76f4cb255439506e42"), looks := true }, kinds := [], alts := [], laidByText := true, laidKinds := [.sentinel, .sentinel, .data, .sentinel, .sentinel, .sentinel, .data, .data, .data], laidTests := true, laidLooks := .later }
def FnAuthorizeNoneUptoCardSaid : Prop := Claim7.holds Tryz.pinned (.plain (OpenSpec.upto fnAuthorizeNoneSpec)) fnAuthorizeNoneUptoCard
end Rows
end Go.Proofs.YtaigmemiklfjoaaGreatDoor
