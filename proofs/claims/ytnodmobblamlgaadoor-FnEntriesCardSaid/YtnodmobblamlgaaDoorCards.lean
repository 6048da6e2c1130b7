/-
  DERIVED. GIVEN WITH THE SEED: THE CARDS: each row of YtnodmobblamlgaaDoorRows.lean that lists a variable, with what it lists TIED to the program's text (the seventh form; the later family's looks); each row that meets fmt, with fmt's text TOLD by the authors' own Lean function (tested against real Go, not proved from fmt's source: count such statements apart). THE CARD IS WHAT COUNTS. Prove the row's statement (the work); the ties are given (YtnodmobblamlgaaDoorTie.lean); close each card by the builder's one call (the guide's Derived/Test/ToyasCard.lean, 'card_holds'). Laid BY PROGRAM, IN A SANDBOX (cutbox-door.mjs). By AI agents, Wed Nov 11 2026. No macro, syntax, notation, axiom, sorry.
-/
import Derived.Test.YtnodmobblamlgaaDoorRows
import GoSem.ClaimSeven
namespace Go.Proofs.YtnodmobblamlgaaDoor
namespace Rows

/-- THE TIED CARD OF 'laws.FnEntries'. -/
def fnEntriesCard : Claim7 := { stood := { row := fnEntriesRow, standIns := [], harness := (true, "fd49cc4832478df7f58388320b8b8e21fdafe1c01d9f21ed449feddd05716af2"), looks := true }, kinds := [], alts := [], laidByText := true, laidKinds := [.sentinel, .sentinel, .data], laidTests := true, laidLooks := .later }
def FnEntriesCardSaid : Prop := Claim7.holds Tryd.pinned (.plain (OpenSpec.ofChange fnEntriesSpec)) fnEntriesCard

/-- THE TIED CARD OF 'laws.FnConfig'. -/
def fnConfigCard : Claim7 := { stood := { row := fnConfigRow, standIns := [], harness := (true, "fd49cc4832478df7f58388320b8b8e21fdafe1c01d9f21ed449feddd05716af2"), looks := true }, kinds := [], alts := [], laidByText := true, laidKinds := [.handle, .sentinel, .sentinel, .data], laidTests := true, laidLooks := .later }
def FnConfigCardSaid : Prop := Claim7.holds Tryd.pinned (.plain (OpenSpec.ofChange fnConfigSpec)) fnConfigCard

/-- THE SECOND FORM's CARD OF 'laws.FnEntries'. -/
def fnEntriesUptoCard : Claim7 := { stood := { row := fnEntriesUptoRow, standIns := [], harness := (true, "fd49cc4832478df7f58388320b8b8e21fdafe1c01d9f21ed449feddd05716af2"), looks := true }, kinds := [], alts := [], laidByText := true, laidKinds := [.sentinel, .sentinel, .data], laidTests := true, laidLooks := .later }
def FnEntriesUptoCardSaid : Prop := Claim7.holds Tryd.pinned (.plain (OpenSpec.upto fnEntriesSpec)) fnEntriesUptoCard

/-- THE SECOND FORM's CARD OF 'laws.FnConfig'. -/
def fnConfigUptoCard : Claim7 := { stood := { row := fnConfigUptoRow, standIns := [], harness := (true, "fd49cc4832478df7f58388320b8b8e21fdafe1c01d9f21ed449feddd05716af2"), looks := true }, kinds := [], alts := [], laidByText := true, laidKinds := [.handle, .sentinel, .sentinel, .data], laidTests := true, laidLooks := .later }
def FnConfigUptoCardSaid : Prop := Claim7.holds Tryd.pinned (.plain (OpenSpec.upto fnConfigSpec)) fnConfigUptoCard
end Rows
end Go.Proofs.YtnodmobblamlgaaDoor
