/-
  DERIVED. GIVEN WITH THE SEED: THE CARDS: each row of YtlohgoedlkkicaaDoorRows.lean that lists a variable, with what it lists TIED to the program's text (the seventh form; the later family's looks); each row that meets fmt, with fmt's text TOLD by the authors' own Lean function (tested against real Go, not proved from fmt's source: count such statements apart). THE CARD IS WHAT COUNTS. Prove the row's statement (the work); the ties are given (YtlohgoedlkkicaaDoorTie.lean); close each card by the builder's one call (the guide's Derived/Test/ToyasCard.lean, 'card_holds'). Laid BY PROGRAM, IN A SANDBOX (cutbox-door.mjs). By AI agents, Wed Nov 11 2026. No macro, syntax, notation, axiom, sorry.
-/
import Derived.Test.YtlohgoedlkkicaaDoorRows
import GoSem.ClaimSeven
namespace Go.Proofs.YtlohgoedlkkicaaDoor
namespace Rows

/-- THE TIED CARD OF 'laws.FnDirective'. -/
def fnDirectiveCard : Claim7 := { stood := { row := fnDirectiveRow, standIns := [], harness := (true, "b091437739396501fe71e9f3df01bdd3512a0650961f3926a1be1db485d2a48c"), looks := false }, kinds := [], alts := [], laidByText := true, laidKinds := [.data, .data, .data], laidTests := true, laidLooks := .later }
def FnDirectiveCardSaid : Prop := Claim7.holds Tryd.pinned (.plain (OpenSpec.ofChange fnDirectiveSpec)) fnDirectiveCard

/-- THE TIED CARD OF 'laws.FnFile'. -/
def fnFileCard : Claim7 := { stood := { row := fnFileRow, standIns := [], harness := (true, "b091437739396501fe71e9f3df01bdd3512a0650961f3926a1be1db485d2a48c"), looks := false }, kinds := [], alts := [], laidByText := true, laidKinds := [.data, .data, .data], laidTests := true, laidLooks := .later }
def FnFileCardSaid : Prop := Claim7.holds Tryd.pinned (.plain (OpenSpec.ofChange fnFileSpec)) fnFileCard

/-- THE TIED CARD OF 'laws.FnFormat'. -/
def fnFormatCard : Claim7 := { stood := { row := fnFormatRow, standIns := [], harness := (true, "b091437739396501fe71e9f3df01bdd3512a0650961f3926a1be1db485d2a48c"), looks := false }, kinds := [], alts := [], laidByText := true, laidKinds := [.data, .data, .data], laidTests := true, laidLooks := .later }
def FnFormatCardSaid : Prop := Claim7.holds Tryd.pinned (.plain (OpenSpec.ofChange fnFormatSpec)) fnFormatCard

/-- THE TIED CARD OF 'laws.FnAbsolute'. -/
def fnAbsoluteCard : Claim7 := { stood := { row := fnAbsoluteRow, standIns := [], harness := (true, "b091437739396501fe71e9f3df01bdd3512a0650961f3926a1be1db485d2a48c"), looks := false }, kinds := [], alts := [], laidByText := true, laidKinds := [.data, .data, .data], laidTests := true, laidLooks := .later }
def FnAbsoluteCardSaid : Prop := Claim7.holds Tryd.pinned (.plain (OpenSpec.ofChange fnAbsoluteSpec)) fnAbsoluteCard

/-- THE TIED CARD OF 'laws.FnDirectiveColumn'. -/
def fnDirectiveColumnCard : Claim7 := { stood := { row := fnDirectiveColumnRow, standIns := [], harness := (true, "b091437739396501fe71e9f3df01bdd3512a0650961f3926a1be1db485d2a48c"), looks := false }, kinds := [], alts := [], laidByText := true, laidKinds := [.data, .data, .data], laidTests := true, laidLooks := .later }
def FnDirectiveColumnCardSaid : Prop := Claim7.holds Tryd.pinned (.plain (OpenSpec.ofChange fnDirectiveColumnSpec)) fnDirectiveColumnCard

/-- THE TIED CARD OF 'laws.FnThrough'. -/
def fnThroughCard : Claim7 := { stood := { row := fnThroughRow, standIns := [], harness := (true, "b091437739396501fe71e9f3df01bdd3512a0650961f3926a1be1db485d2a48c"), looks := false }, kinds := [], alts := [], laidByText := true, laidKinds := [.data, .data, .data], laidTests := true, laidLooks := .later }
def FnThroughCardSaid : Prop := Claim7.holds Tryd.pinned (.plain (OpenSpec.ofChange fnThroughSpec)) fnThroughCard

/-- THE SECOND FORM's CARD OF 'laws.FnDirective'. -/
def fnDirectiveUptoCard : Claim7 := { stood := { row := fnDirectiveUptoRow, standIns := [], harness := (true, "b091437739396501fe71e9f3df01bdd3512a0650961f3926a1be1db485d2a48c"), looks := false }, kinds := [], alts := [], laidByText := true, laidKinds := [.data, .data, .data], laidTests := true, laidLooks := .later }
def FnDirectiveUptoCardSaid : Prop := Claim7.holds Tryd.pinned (.plain (OpenSpec.upto fnDirectiveSpec)) fnDirectiveUptoCard

/-- THE SECOND FORM's CARD OF 'laws.FnFile'. -/
def fnFileUptoCard : Claim7 := { stood := { row := fnFileUptoRow, standIns := [], harness := (true, "b091437739396501fe71e9f3df01bdd3512a0650961f3926a1be1db485d2a48c"), looks := false }, kinds := [], alts := [], laidByText := true, laidKinds := [.data, .data, .data], laidTests := true, laidLooks := .later }
def FnFileUptoCardSaid : Prop := Claim7.holds Tryd.pinned (.plain (OpenSpec.upto fnFileSpec)) fnFileUptoCard

/-- THE SECOND FORM's CARD OF 'laws.FnFormat'. -/
def fnFormatUptoCard : Claim7 := { stood := { row := fnFormatUptoRow, standIns := [], harness := (true, "b091437739396501fe71e9f3df01bdd3512a0650961f3926a1be1db485d2a48c"), looks := false }, kinds := [], alts := [], laidByText := true, laidKinds := [.data, .data, .data], laidTests := true, laidLooks := .later }
def FnFormatUptoCardSaid : Prop := Claim7.holds Tryd.pinned (.plain (OpenSpec.upto fnFormatSpec)) fnFormatUptoCard

/-- THE SECOND FORM's CARD OF 'laws.FnAbsolute'. -/
def fnAbsoluteUptoCard : Claim7 := { stood := { row := fnAbsoluteUptoRow, standIns := [], harness := (true, "b091437739396501fe71e9f3df01bdd3512a0650961f3926a1be1db485d2a48c"), looks := false }, kinds := [], alts := [], laidByText := true, laidKinds := [.data, .data, .data], laidTests := true, laidLooks := .later }
def FnAbsoluteUptoCardSaid : Prop := Claim7.holds Tryd.pinned (.plain (OpenSpec.upto fnAbsoluteSpec)) fnAbsoluteUptoCard

/-- THE SECOND FORM's CARD OF 'laws.FnDirectiveColumn'. -/
def fnDirectiveColumnUptoCard : Claim7 := { stood := { row := fnDirectiveColumnUptoRow, standIns := [], harness := (true, "b091437739396501fe71e9f3df01bdd3512a0650961f3926a1be1db485d2a48c"), looks := false }, kinds := [], alts := [], laidByText := true, laidKinds := [.data, .data, .data], laidTests := true, laidLooks := .later }
def FnDirectiveColumnUptoCardSaid : Prop := Claim7.holds Tryd.pinned (.plain (OpenSpec.upto fnDirectiveColumnSpec)) fnDirectiveColumnUptoCard

/-- THE SECOND FORM's CARD OF 'laws.FnThrough'. -/
def fnThroughUptoCard : Claim7 := { stood := { row := fnThroughUptoRow, standIns := [], harness := (true, "b091437739396501fe71e9f3df01bdd3512a0650961f3926a1be1db485d2a48c"), looks := false }, kinds := [], alts := [], laidByText := true, laidKinds := [.data, .data, .data], laidTests := true, laidLooks := .later }
def FnThroughUptoCardSaid : Prop := Claim7.holds Tryd.pinned (.plain (OpenSpec.upto fnThroughSpec)) fnThroughUptoCard
end Rows
end Go.Proofs.YtlohgoedlkkicaaDoor
