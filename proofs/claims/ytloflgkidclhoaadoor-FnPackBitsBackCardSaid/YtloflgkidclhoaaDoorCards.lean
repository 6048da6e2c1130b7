/-
  DERIVED. GIVEN WITH THE SEED: THE CARDS: each row of YtloflgkidclhoaaDoorRows.lean that lists a variable, with what it lists TIED to the program's text (the seventh form; the later family's looks); each row that meets fmt, with fmt's text TOLD by the authors' own Lean function (tested against real Go, not proved from fmt's source: count such statements apart). THE CARD IS WHAT COUNTS. Prove the row's statement (the work); the ties are given (YtloflgkidclhoaaDoorTie.lean); close each card by the builder's one call (the guide's Derived/Test/ToyasCard.lean, 'card_holds'). Laid BY PROGRAM, IN A SANDBOX (cutbox-door.mjs). By AI agents, Wed Nov 11 2026. No macro, syntax, notation, axiom, sorry.
-/
import Derived.Test.YtloflgkidclhoaaDoorRows
import GoSem.ClaimSeven
namespace Go.Proofs.YtloflgkidclhoaaDoor
namespace Rows

/-- THE TIED CARD OF 'laws.FnPackBits'. -/
def fnPackBitsCard : Claim7 := { stood := { row := fnPackBitsRow, standIns := [], harness := (true, "e8d2d3991fa58513d1e5b5f4c310ebd29e8b62edc142a6dca122b23d14456a6f"), looks := true }, kinds := [], alts := [], laidByText := true, laidKinds := [.sentinel, .sentinel, .sentinel], laidTests := true, laidLooks := .later }
def FnPackBitsCardSaid : Prop := Claim7.holds Tryd.pinned (.plain (OpenSpec.ofChange fnPackBitsSpec)) fnPackBitsCard

/-- THE TIED CARD OF 'laws.FnPackBitsBack'. -/
def fnPackBitsBackCard : Claim7 := { stood := { row := fnPackBitsBackRow, standIns := [], harness := (true, "e8d2d3991fa58513d1e5b5f4c310ebd29e8b62edc142a6dca122b23d14456a6f"), looks := true }, kinds := [], alts := [], laidByText := true, laidKinds := [.sentinel, .sentinel, .sentinel], laidTests := true, laidLooks := .later }
def FnPackBitsBackCardSaid : Prop := Claim7.holds Tryd.pinned (.plain (OpenSpec.ofChange fnPackBitsBackSpec)) fnPackBitsBackCard

/-- THE SECOND FORM's CARD OF 'laws.FnPackBits'. -/
def fnPackBitsUptoCard : Claim7 := { stood := { row := fnPackBitsUptoRow, standIns := [], harness := (true, "e8d2d3991fa58513d1e5b5f4c310ebd29e8b62edc142a6dca122b23d14456a6f"), looks := true }, kinds := [], alts := [], laidByText := true, laidKinds := [.sentinel, .sentinel, .sentinel], laidTests := true, laidLooks := .later }
def FnPackBitsUptoCardSaid : Prop := Claim7.holds Tryd.pinned (.plain (OpenSpec.upto fnPackBitsSpec)) fnPackBitsUptoCard

/-- THE SECOND FORM's CARD OF 'laws.FnPackBitsBack'. -/
def fnPackBitsBackUptoCard : Claim7 := { stood := { row := fnPackBitsBackUptoRow, standIns := [], harness := (true, "e8d2d3991fa58513d1e5b5f4c310ebd29e8b62edc142a6dca122b23d14456a6f"), looks := true }, kinds := [], alts := [], laidByText := true, laidKinds := [.sentinel, .sentinel, .sentinel], laidTests := true, laidLooks := .later }
def FnPackBitsBackUptoCardSaid : Prop := Claim7.holds Tryd.pinned (.plain (OpenSpec.upto fnPackBitsBackSpec)) fnPackBitsBackUptoCard
end Rows
end Go.Proofs.YtloflgkidclhoaaDoor
