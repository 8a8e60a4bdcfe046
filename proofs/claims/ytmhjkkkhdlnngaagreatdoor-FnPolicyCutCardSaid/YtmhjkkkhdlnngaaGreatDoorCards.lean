/-
  DERIVED. GIVEN WITH THE SEED: THE CARDS: each row of YtmhjkkkhdlnngaaGreatDoorRows.lean that lists a variable, with what it lists TIED to the program's text (the seventh form; the later family's looks); each row that meets fmt, with fmt's text TOLD by the authors' own Lean function (tested against real Go, not proved from fmt's source: count such statements apart). THE CARD IS WHAT COUNTS. Prove the row's statement (the work); the ties are given (YtmhjkkkhdlnngaaGreatDoorTie.lean); close each card by the builder's one call (the guide's Derived/Test/ToyasCard.lean, 'card_holds'). Laid BY PROGRAM, IN A SANDBOX (cutbox-door.mjs). By AI agents, Wed Nov 11 2026. No macro, syntax, notation, axiom, sorry.
-/
import Derived.Test.YtmhjkkkhdlnngaaGreatDoorRows
import GoSem.ClaimSeven
namespace Go.Proofs.YtmhjkkkhdlnngaaGreatDoor
namespace Rows

/-- THE TIED CARD OF 'laws.FnComma'. -/
def fnCommaCard : Claim7 := { stood := { row := fnCommaRow, standIns := [], harness := (true, "024c4db319e1541550de9489c66de6622cf536deede84cf13ec5003370b2f236"), looks := true }, kinds := [], alts := [], laidByText := true, laidKinds := [.data, .data, .data, .data, .data, .sentinel, .sentinel, .sentinel, .sentinel, .pinned], laidTests := true, laidLooks := .later }
def FnCommaCardSaid : Prop := Claim7.holds Tryz.pinned (.plain (OpenSpec.ofChange fnCommaSpec)) fnCommaCard

/-- THE TIED CARD OF 'laws.FnDecodeAll'. -/
def fnDecodeAllCard : Claim7 := { stood := { row := fnDecodeAllRow, standIns := [], harness := (true, "024c4db319e1541550de9489c66de6622cf536deede84cf13ec5003370b2f236"), looks := true }, kinds := [], alts := [], laidByText := true, laidKinds := [.data, .data, .data, .data, .data, .sentinel, .sentinel, .sentinel, .sentinel, .pinned], laidTests := true, laidLooks := .later }
def FnDecodeAllCardSaid : Prop := Claim7.holds Tryz.pinned (.plain (OpenSpec.ofChange fnDecodeAllSpec)) fnDecodeAllCard

/-- THE TIED CARD OF 'laws.FnPoliciesParse'. -/
def fnPoliciesParseCard : Claim7 := { stood := { row := fnPoliciesParseRow, standIns := [], harness := (true, "024c4db319e1541550de9489c66de6622cf536deede84cf13ec5003370b2f236"), looks := true }, kinds := [], alts := [], laidByText := true, laidKinds := [.data, .data, .data, .data, .data, .sentinel, .sentinel, .sentinel, .sentinel, .pinned], laidTests := true, laidLooks := .later }
def FnPoliciesParseCardSaid : Prop := Claim7.holds Tryz.pinned (.plain (OpenSpec.ofChange fnPoliciesParseSpec)) fnPoliciesParseCard

/-- THE TIED CARD OF 'laws.FnReadBinary'. -/
def fnReadBinaryCard : Claim7 := { stood := { row := fnReadBinaryRow, standIns := [], harness := (true, "024c4db319e1541550de9489c66de6622cf536deede84cf13ec5003370b2f236"), looks := true }, kinds := [], alts := [], laidByText := true, laidKinds := [.data, .data, .data, .data, .data, .sentinel, .sentinel, .sentinel, .sentinel, .pinned], laidTests := true, laidLooks := .later }
def FnReadBinaryCardSaid : Prop := Claim7.holds Tryz.pinned (.plain (OpenSpec.ofChange fnReadBinarySpec)) fnReadBinaryCard

/-- THE TIED CARD OF 'laws.FnReadNotes'. -/
def fnReadNotesCard : Claim7 := { stood := { row := fnReadNotesRow, standIns := [], harness := (true, "024c4db319e1541550de9489c66de6622cf536deede84cf13ec5003370b2f236"), looks := true }, kinds := [], alts := [], laidByText := true, laidKinds := [.data, .data, .data, .data, .data, .sentinel, .sentinel, .sentinel, .sentinel, .pinned], laidTests := true, laidLooks := .later }
def FnReadNotesCardSaid : Prop := Claim7.holds Tryz.pinned (.plain (OpenSpec.ofChange fnReadNotesSpec)) fnReadNotesCard

/-- THE TIED CARD OF 'laws.FnReadUnary'. -/
def fnReadUnaryCard : Claim7 := { stood := { row := fnReadUnaryRow, standIns := [], harness := (true, "024c4db319e1541550de9489c66de6622cf536deede84cf13ec5003370b2f236"), looks := true }, kinds := [], alts := [], laidByText := true, laidKinds := [.data, .data, .data, .data, .data, .sentinel, .sentinel, .sentinel, .sentinel, .pinned], laidTests := true, laidLooks := .later }
def FnReadUnaryCardSaid : Prop := Claim7.holds Tryz.pinned (.plain (OpenSpec.ofChange fnReadUnarySpec)) fnReadUnaryCard

/-- THE TIED CARD OF 'laws.FnPolicyCut'. -/
def fnPolicyCutCard : Claim7 := { stood := { row := fnPolicyCutRow, standIns := [], harness := (true, "024c4db319e1541550de9489c66de6622cf536deede84cf13ec5003370b2f236"), looks := true }, kinds := [], alts := [], laidByText := true, laidKinds := [.data, .data, .data, .data, .data, .sentinel, .sentinel, .sentinel, .sentinel, .pinned], laidTests := true, laidLooks := .later }
def FnPolicyCutCardSaid : Prop := Claim7.holds Tryz.pinned (.plain (OpenSpec.ofChange fnPolicyCutSpec)) fnPolicyCutCard

/-- THE SECOND FORM's CARD OF 'laws.FnComma'. -/
def fnCommaUptoCard : Claim7 := { stood := { row := fnCommaUptoRow, standIns := [], harness := (true, "024c4db319e1541550de9489c66de6622cf536deede84cf13ec5003370b2f236"), looks := true }, kinds := [], alts := [], laidByText := true, laidKinds := [.data, .data, .data, .data, .data, .sentinel, .sentinel, .sentinel, .sentinel, .pinned], laidTests := true, laidLooks := .later }
def FnCommaUptoCardSaid : Prop := Claim7.holds Tryz.pinned (.plain (OpenSpec.upto fnCommaSpec)) fnCommaUptoCard

/-- THE SECOND FORM's CARD OF 'laws.FnDecodeAll'. -/
def fnDecodeAllUptoCard : Claim7 := { stood := { row := fnDecodeAllUptoRow, standIns := [], harness := (true, "024c4db319e1541550de9489c66de6622cf536deede84cf13ec5003370b2f236"), looks := true }, kinds := [], alts := [], laidByText := true, laidKinds := [.data, .data, .data, .data, .data, .sentinel, .sentinel, .sentinel, .sentinel, .pinned], laidTests := true, laidLooks := .later }
def FnDecodeAllUptoCardSaid : Prop := Claim7.holds Tryz.pinned (.plain (OpenSpec.upto fnDecodeAllSpec)) fnDecodeAllUptoCard

/-- THE SECOND FORM's CARD OF 'laws.FnPoliciesParse'. -/
def fnPoliciesParseUptoCard : Claim7 := { stood := { row := fnPoliciesParseUptoRow, standIns := [], harness := (true, "024c4db319e1541550de9489c66de6622cf536deede84cf13ec5003370b2f236"), looks := true }, kinds := [], alts := [], laidByText := true, laidKinds := [.data, .data, .data, .data, .data, .sentinel, .sentinel, .sentinel, .sentinel, .pinned], laidTests := true, laidLooks := .later }
def FnPoliciesParseUptoCardSaid : Prop := Claim7.holds Tryz.pinned (.plain (OpenSpec.upto fnPoliciesParseSpec)) fnPoliciesParseUptoCard

/-- THE SECOND FORM's CARD OF 'laws.FnReadBinary'. -/
def fnReadBinaryUptoCard : Claim7 := { stood := { row := fnReadBinaryUptoRow, standIns := [], harness := (true, "024c4db319e1541550de9489c66de6622cf536deede84cf13ec5003370b2f236"), looks := true }, kinds := [], alts := [], laidByText := true, laidKinds := [.data, .data, .data, .data, .data, .sentinel, .sentinel, .sentinel, .sentinel, .pinned], laidTests := true, laidLooks := .later }
def FnReadBinaryUptoCardSaid : Prop := Claim7.holds Tryz.pinned (.plain (OpenSpec.upto fnReadBinarySpec)) fnReadBinaryUptoCard

/-- THE SECOND FORM's CARD OF 'laws.FnReadNotes'. -/
def fnReadNotesUptoCard : Claim7 := { stood := { row := fnReadNotesUptoRow, standIns := [], harness := (true, "024c4db319e1541550de9489c66de6622cf536deede84cf13ec5003370b2f236"), looks := true }, kinds := [], alts := [], laidByText := true, laidKinds := [.data, .data, .data, .data, .data, .sentinel, .sentinel, .sentinel, .sentinel, .pinned], laidTests := true, laidLooks := .later }
def FnReadNotesUptoCardSaid : Prop := Claim7.holds Tryz.pinned (.plain (OpenSpec.upto fnReadNotesSpec)) fnReadNotesUptoCard

/-- THE SECOND FORM's CARD OF 'laws.FnReadUnary'. -/
def fnReadUnaryUptoCard : Claim7 := { stood := { row := fnReadUnaryUptoRow, standIns := [], harness := (true, "024c4db319e1541550de9489c66de6622cf536deede84cf13ec5003370b2f236"), looks := true }, kinds := [], alts := [], laidByText := true, laidKinds := [.data, .data, .data, .data, .data, .sentinel, .sentinel, .sentinel, .sentinel, .pinned], laidTests := true, laidLooks := .later }
def FnReadUnaryUptoCardSaid : Prop := Claim7.holds Tryz.pinned (.plain (OpenSpec.upto fnReadUnarySpec)) fnReadUnaryUptoCard

/-- THE SECOND FORM's CARD OF 'laws.FnPolicyCut'. -/
def fnPolicyCutUptoCard : Claim7 := { stood := { row := fnPolicyCutUptoRow, standIns := [], harness := (true, "024c4db319e1541550de9489c66de6622cf536deede84cf13ec5003370b2f236"), looks := true }, kinds := [], alts := [], laidByText := true, laidKinds := [.data, .data, .data, .data, .data, .sentinel, .sentinel, .sentinel, .sentinel, .pinned], laidTests := true, laidLooks := .later }
def FnPolicyCutUptoCardSaid : Prop := Claim7.holds Tryz.pinned (.plain (OpenSpec.upto fnPolicyCutSpec)) fnPolicyCutUptoCard
end Rows
end Go.Proofs.YtmhjkkkhdlnngaaGreatDoor
