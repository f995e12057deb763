/-
  DERIVED. GIVEN WITH THE SEED: THE CARDS: each row of YteokhhepnoelhaaGreatDoorRows.lean that lists a variable, with what it lists TIED to the program's text (the seventh form; the later family's looks); each row that meets fmt, with fmt's text TOLD by the authors' own Lean function (tested against real Go, not proved from fmt's source: count such statements apart). THE CARD IS WHAT COUNTS. Prove the row's statement (the work); the ties are given (YteokhhepnoelhaaGreatDoorTie.lean); close each card by the builder's one call (the guide's Derived/Test/ToyasCard.lean, 'card_holds'). Laid BY PROGRAM, IN A SANDBOX (cutbox-door.mjs). By AI agents, Wed Nov 11 2026. No macro, syntax, notation, axiom, sorry.
-/
import Derived.Test.YteokhhepnoelhaaGreatDoorRows
import GoSem.ClaimSeven
namespace Go.Proofs.YteokhhepnoelhaaGreatDoor
namespace Rows

/-- THE TIED CARD OF 'laws.FnParse'. -/
def fnParseCard : Claim7 := { stood := { row := fnParseRow, standIns := [], harness := (true, "e7c11a29da5460c2edf5bb3cd86ddb1478aab04f4f8d3095e9baf16b97f3c400"), looks := true }, kinds := [], alts := [], laidByText := true, laidKinds := [.data, .data, .data, .data, .sentinel, .sentinel, .sentinel, .sentinel, .sentinel, .data, .data, .data, .data, .data, .widerDeep, .pinned, .pinned], laidTests := true, laidLooks := .later }
def FnParseCardSaid : Prop := Claim7.holds Tryz.pinned (.plain (OpenSpec.ofChange fnParseSpec)) fnParseCard

/-- THE TIED CARD OF 'laws.FnParseFails'. -/
def fnParseFailsCard : Claim7 := { stood := { row := fnParseFailsRow, standIns := [], harness := (true, "e7c11a29da5460c2edf5bb3cd86ddb1478aab04f4f8d3095e9baf16b97f3c400"), looks := true }, kinds := [], alts := [], laidByText := true, laidKinds := [.data, .data, .data, .data, .sentinel, .sentinel, .sentinel, .sentinel, .sentinel, .data, .data, .data, .data, .data, .widerDeep, .pinned, .pinned], laidTests := true, laidLooks := .later }
def FnParseFailsCardSaid : Prop := Claim7.holds Tryz.pinned (.plain (OpenSpec.ofChange fnParseFailsSpec)) fnParseFailsCard

/-- THE TIED CARD OF 'laws.FnParseContext'. -/
def fnParseContextCard : Claim7 := { stood := { row := fnParseContextRow, standIns := [], harness := (true, "e7c11a29da5460c2edf5bb3cd86ddb1478aab04f4f8d3095e9baf16b97f3c400"), looks := true }, kinds := [], alts := [], laidByText := true, laidKinds := [.data, .data, .data, .data, .sentinel, .sentinel, .sentinel, .sentinel, .sentinel, .data, .data, .data, .data, .data, .pinned, .pinned], laidTests := true, laidLooks := .later }
def FnParseContextCardSaid : Prop := Claim7.holds Tryz.pinned (.plain (OpenSpec.ofChange fnParseContextSpec)) fnParseContextCard

/-- THE TIED CARD OF 'laws.FnBack'. -/
def fnBackCard : Claim7 := { stood := { row := fnBackRow, standIns := [], harness := (true, "e7c11a29da5460c2edf5bb3cd86ddb1478aab04f4f8d3095e9baf16b97f3c400"), looks := true }, kinds := [], alts := [], laidByText := true, laidKinds := [.data, .data, .data, .data, .sentinel, .sentinel, .sentinel, .sentinel, .sentinel, .data, .data, .data, .data, .data, .widerDeep, .pinned, .pinned], laidTests := true, laidLooks := .later }
def FnBackCardSaid : Prop := Claim7.holds Tryz.pinned (.plain (OpenSpec.ofChange fnBackSpec)) fnBackCard

/-- THE TIED CARD OF 'laws.FnFormBack'. -/
def fnFormBackCard : Claim7 := { stood := { row := fnFormBackRow, standIns := [], harness := (true, "e7c11a29da5460c2edf5bb3cd86ddb1478aab04f4f8d3095e9baf16b97f3c400"), looks := true }, kinds := [], alts := [], laidByText := true, laidKinds := [.data, .data, .data, .data, .sentinel, .sentinel, .sentinel, .sentinel, .sentinel, .data, .data, .data, .data, .data, .widerDeep, .pinned, .pinned], laidTests := true, laidLooks := .later }
def FnFormBackCardSaid : Prop := Claim7.holds Tryz.pinned (.plain (OpenSpec.ofChange fnFormBackSpec)) fnFormBackCard

/-- THE SECOND FORM's CARD OF 'laws.FnParse'. -/
def fnParseUptoCard : Claim7 := { stood := { row := fnParseUptoRow, standIns := [], harness := (true, "e7c11a29da5460c2edf5bb3cd86ddb1478aab04f4f8d3095e9baf16b97f3c400"), looks := true }, kinds := [], alts := [], laidByText := true, laidKinds := [.data, .data, .data, .data, .sentinel, .sentinel, .sentinel, .sentinel, .sentinel, .data, .data, .data, .data, .data, .widerDeep, .pinned, .pinned], laidTests := true, laidLooks := .later }
def FnParseUptoCardSaid : Prop := Claim7.holds Tryz.pinned (.plain (OpenSpec.upto fnParseSpec)) fnParseUptoCard

/-- THE SECOND FORM's CARD OF 'laws.FnParseFails'. -/
def fnParseFailsUptoCard : Claim7 := { stood := { row := fnParseFailsUptoRow, standIns := [], harness := (true, "e7c11a29da5460c2edf5bb3cd86ddb1478aab04f4f8d3095e9baf16b97f3c400"), looks := true }, kinds := [], alts := [], laidByText := true, laidKinds := [.data, .data, .data, .data, .sentinel, .sentinel, .sentinel, .sentinel, .sentinel, .data, .data, .data, .data, .data, .widerDeep, .pinned, .pinned], laidTests := true, laidLooks := .later }
def FnParseFailsUptoCardSaid : Prop := Claim7.holds Tryz.pinned (.plain (OpenSpec.upto fnParseFailsSpec)) fnParseFailsUptoCard

/-- THE SECOND FORM's CARD OF 'laws.FnParseContext'. -/
def fnParseContextUptoCard : Claim7 := { stood := { row := fnParseContextUptoRow, standIns := [], harness := (true, "e7c11a29da5460c2edf5bb3cd86ddb1478aab04f4f8d3095e9baf16b97f3c400"), looks := true }, kinds := [], alts := [], laidByText := true, laidKinds := [.data, .data, .data, .data, .sentinel, .sentinel, .sentinel, .sentinel, .sentinel, .data, .data, .data, .data, .data, .pinned, .pinned], laidTests := true, laidLooks := .later }
def FnParseContextUptoCardSaid : Prop := Claim7.holds Tryz.pinned (.plain (OpenSpec.upto fnParseContextSpec)) fnParseContextUptoCard

/-- THE SECOND FORM's CARD OF 'laws.FnBack'. -/
def fnBackUptoCard : Claim7 := { stood := { row := fnBackUptoRow, standIns := [], harness := (true, "e7c11a29da5460c2edf5bb3cd86ddb1478aab04f4f8d3095e9baf16b97f3c400"), looks := true }, kinds := [], alts := [], laidByText := true, laidKinds := [.data, .data, .data, .data, .sentinel, .sentinel, .sentinel, .sentinel, .sentinel, .data, .data, .data, .data, .data, .widerDeep, .pinned, .pinned], laidTests := true, laidLooks := .later }
def FnBackUptoCardSaid : Prop := Claim7.holds Tryz.pinned (.plain (OpenSpec.upto fnBackSpec)) fnBackUptoCard

/-- THE SECOND FORM's CARD OF 'laws.FnFormBack'. -/
def fnFormBackUptoCard : Claim7 := { stood := { row := fnFormBackUptoRow, standIns := [], harness := (true, "e7c11a29da5460c2edf5bb3cd86ddb1478aab04f4f8d3095e9baf16b97f3c400"), looks := true }, kinds := [], alts := [], laidByText := true, laidKinds := [.data, .data, .data, .data, .sentinel, .sentinel, .sentinel, .sentinel, .sentinel, .data, .data, .data, .data, .data, .widerDeep, .pinned, .pinned], laidTests := true, laidLooks := .later }
def FnFormBackUptoCardSaid : Prop := Claim7.holds Tryz.pinned (.plain (OpenSpec.upto fnFormBackSpec)) fnFormBackUptoCard
end Rows
end Go.Proofs.YteokhhepnoelhaaGreatDoor
