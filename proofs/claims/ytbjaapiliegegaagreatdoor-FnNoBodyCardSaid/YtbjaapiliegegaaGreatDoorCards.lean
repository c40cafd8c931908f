/-
  DERIVED. GIVEN WITH THE SEED: THE CARDS: each row of YtbjaapiliegegaaGreatDoorRows.lean that lists a variable, with what it lists TIED to the program's text (the seventh form; the later family's looks); each row that meets fmt, with fmt's text TOLD by the authors' own Lean function (tested against real Go, not proved from fmt's source: count such statements apart). THE CARD IS WHAT COUNTS. Prove the row's statement (the work); the ties are given (YtbjaapiliegegaaGreatDoorTie.lean); close each card by the builder's one call (the guide's Derived/Test/ToyasCard.lean, 'card_holds'). Laid BY PROGRAM, IN A SANDBOX (cutbox-door.mjs). By AI agents, Wed Nov 11 2026. No macro, syntax, notation, axiom, sorry.
-/
import Derived.Test.YtbjaapiliegegaaGreatDoorRows
import GoSem.ClaimSeven
namespace Go.Proofs.YtbjaapiliegegaaGreatDoor
namespace Rows

/-- THE TIED CARD OF 'laws.FnVersion'. -/
def fnVersionCard : Claim7 := { stood := { row := fnVersionRow, standIns := [], harness := (true, "4c79875e3fb86b8033b71ca1619b7131d72c900617f63172bddc7ed916594055"), looks := true }, kinds := [], alts := [], laidByText := true, laidKinds := [.data, .data, .data, .data, .sentinel, .sentinel, .data, .pinned, .pinned], laidTests := true, laidLooks := .later }
def FnVersionCardSaid : Prop := Claim7.holds Tryz.pinned (.plain (OpenSpec.ofChange fnVersionSpec)) fnVersionCard

/-- THE TIED CARD OF 'laws.FnCanonical'. -/
def fnCanonicalCard : Claim7 := { stood := { row := fnCanonicalRow, standIns := [], harness := (true, "4c79875e3fb86b8033b71ca1619b7131d72c900617f63172bddc7ed916594055"), looks := true }, kinds := [], alts := [], laidByText := true, laidKinds := [.data, .data, .data, .data, .sentinel, .sentinel, .data, .pinned, .pinned], laidTests := true, laidLooks := .later }
def FnCanonicalCardSaid : Prop := Claim7.holds Tryz.pinned (.plain (OpenSpec.ofChange fnCanonicalSpec)) fnCanonicalCard

/-- THE TIED CARD OF 'laws.FnNoBody'. -/
def fnNoBodyCard : Claim7 := { stood := { row := fnNoBodyRow, standIns := [], harness := (true, "4c79875e3fb86b8033b71ca1619b7131d72c900617f63172bddc7ed916594055"), looks := true }, kinds := [], alts := [], laidByText := true, laidKinds := [.data, .data, .data, .data, .sentinel, .sentinel, .data, .pinned, .pinned], laidTests := true, laidLooks := .later }
def FnNoBodyCardSaid : Prop := Claim7.holds Tryz.pinned (.plain (OpenSpec.ofChange fnNoBodySpec)) fnNoBodyCard

/-- THE TIED CARD OF 'laws.FnRequest'. -/
def fnRequestCard : Claim7 := { stood := { row := fnRequestRow, standIns := [], harness := (true, "4c79875e3fb86b8033b71ca1619b7131d72c900617f63172bddc7ed916594055"), looks := true }, kinds := [], alts := [], laidByText := true, laidKinds := [.data, .data, .data, .data, .sentinel, .sentinel, .data, .pinned, .pinned], laidTests := true, laidLooks := .later }
def FnRequestCardSaid : Prop := Claim7.holds Tryz.pinned (.plain (OpenSpec.ofChange fnRequestSpec)) fnRequestCard

/-- THE TIED CARD OF 'laws.FnSizes'. -/
def fnSizesCard : Claim7 := { stood := { row := fnSizesRow, standIns := [], harness := (true, "4c79875e3fb86b8033b71ca1619b7131d72c900617f63172bddc7ed916594055"), looks := true }, kinds := [], alts := [], laidByText := true, laidKinds := [.data, .data, .data, .data, .sentinel, .sentinel, .data, .pinned, .pinned], laidTests := true, laidLooks := .later }
def FnSizesCardSaid : Prop := Claim7.holds Tryz.pinned (.plain (OpenSpec.ofChange fnSizesSpec)) fnSizesCard

/-- THE TIED CARD OF 'laws.FnResponse'. -/
def fnResponseCard : Claim7 := { stood := { row := fnResponseRow, standIns := [], harness := (true, "4c79875e3fb86b8033b71ca1619b7131d72c900617f63172bddc7ed916594055"), looks := true }, kinds := [], alts := [], laidByText := true, laidKinds := [.data, .data, .data, .data, .sentinel, .sentinel, .data, .pinned, .pinned], laidTests := true, laidLooks := .later }
def FnResponseCardSaid : Prop := Claim7.holds Tryz.pinned (.plain (OpenSpec.ofChange fnResponseSpec)) fnResponseCard

/-- THE SECOND FORM's CARD OF 'laws.FnVersion'. -/
def fnVersionUptoCard : Claim7 := { stood := { row := fnVersionUptoRow, standIns := [], harness := (true, "4c79875e3fb86b8033b71ca1619b7131d72c900617f63172bddc7ed916594055"), looks := true }, kinds := [], alts := [], laidByText := true, laidKinds := [.data, .data, .data, .data, .sentinel, .sentinel, .data, .pinned, .pinned], laidTests := true, laidLooks := .later }
def FnVersionUptoCardSaid : Prop := Claim7.holds Tryz.pinned (.plain (OpenSpec.upto fnVersionSpec)) fnVersionUptoCard

/-- THE SECOND FORM's CARD OF 'laws.FnCanonical'. -/
def fnCanonicalUptoCard : Claim7 := { stood := { row := fnCanonicalUptoRow, standIns := [], harness := (true, "4c79875e3fb86b8033b71ca1619b7131d72c900617f63172bddc7ed916594055"), looks := true }, kinds := [], alts := [], laidByText := true, laidKinds := [.data, .data, .data, .data, .sentinel, .sentinel, .data, .pinned, .pinned], laidTests := true, laidLooks := .later }
def FnCanonicalUptoCardSaid : Prop := Claim7.holds Tryz.pinned (.plain (OpenSpec.upto fnCanonicalSpec)) fnCanonicalUptoCard

/-- THE SECOND FORM's CARD OF 'laws.FnNoBody'. -/
def fnNoBodyUptoCard : Claim7 := { stood := { row := fnNoBodyUptoRow, standIns := [], harness := (true, "4c79875e3fb86b8033b71ca1619b7131d72c900617f63172bddc7ed916594055"), looks := true }, kinds := [], alts := [], laidByText := true, laidKinds := [.data, .data, .data, .data, .sentinel, .sentinel, .data, .pinned, .pinned], laidTests := true, laidLooks := .later }
def FnNoBodyUptoCardSaid : Prop := Claim7.holds Tryz.pinned (.plain (OpenSpec.upto fnNoBodySpec)) fnNoBodyUptoCard

/-- THE SECOND FORM's CARD OF 'laws.FnRequest'. -/
def fnRequestUptoCard : Claim7 := { stood := { row := fnRequestUptoRow, standIns := [], harness := (true, "4c79875e3fb86b8033b71ca1619b7131d72c900617f63172bddc7ed916594055"), looks := true }, kinds := [], alts := [], laidByText := true, laidKinds := [.data, .data, .data, .data, .sentinel, .sentinel, .data, .pinned, .pinned], laidTests := true, laidLooks := .later }
def FnRequestUptoCardSaid : Prop := Claim7.holds Tryz.pinned (.plain (OpenSpec.upto fnRequestSpec)) fnRequestUptoCard

/-- THE SECOND FORM's CARD OF 'laws.FnSizes'. -/
def fnSizesUptoCard : Claim7 := { stood := { row := fnSizesUptoRow, standIns := [], harness := (true, "4c79875e3fb86b8033b71ca1619b7131d72c900617f63172bddc7ed916594055"), looks := true }, kinds := [], alts := [], laidByText := true, laidKinds := [.data, .data, .data, .data, .sentinel, .sentinel, .data, .pinned, .pinned], laidTests := true, laidLooks := .later }
def FnSizesUptoCardSaid : Prop := Claim7.holds Tryz.pinned (.plain (OpenSpec.upto fnSizesSpec)) fnSizesUptoCard

/-- THE SECOND FORM's CARD OF 'laws.FnResponse'. -/
def fnResponseUptoCard : Claim7 := { stood := { row := fnResponseUptoRow, standIns := [], harness := (true, "4c79875e3fb86b8033b71ca1619b7131d72c900617f63172bddc7ed916594055"), looks := true }, kinds := [], alts := [], laidByText := true, laidKinds := [.data, .data, .data, .data, .sentinel, .sentinel, .data, .pinned, .pinned], laidTests := true, laidLooks := .later }
def FnResponseUptoCardSaid : Prop := Claim7.holds Tryz.pinned (.plain (OpenSpec.upto fnResponseSpec)) fnResponseUptoCard
end Rows
end Go.Proofs.YtbjaapiliegegaaGreatDoor
