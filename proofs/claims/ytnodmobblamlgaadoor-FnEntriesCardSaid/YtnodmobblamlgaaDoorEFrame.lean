/- What the rows of this seat share: how a byte slice that came in is opened, what the listed table gives, a start that meets the lists. -/
import Derived.Test.YtnodmobblamlgaaDoorRows
import Derived.Test.YtnodmobblamlgaaDoorTie
import Derived.Test.YtnodmobblamlgaaDoorCards
import Derived.Test.YtnodmobblamlgaaDoorEBase
import Derived.Test.YtnodmobblamlgaaDoorEWAll
import Derived.ProofKit
import Derived.OpenShut
import Derived.OpenVars
import Derived.LaidMore
import Derived.Lib.LaidTab
import Derived.Stop.LaidErr
import Derived.Stop.Joined
namespace Go.Proofs.YtnodmobblamlgaaDoor
open Go.ChangeShapes Go.WideShapes Go.ChangeAt Go.RowKit Go.Proofs.YtnodmobblamlgaaDoorW.PrintWords
set_option linter.unusedVariables false
set_option linter.unusedSimpArgs false

theorem own : ownKnob Tryd.prog.godebug = none := by kernel_rfl
theorem laidOut : laidOutB Tryd.prog = true := by kernel_rfl

theorem gLen : Tryd.prog.globalNamed "loop.example/pub-g03432/pub/image/tiff.lengths" = some 5 := by kernel_rfl
theorem tLen : (Tryd.prog.globals[5]?).map (·.type) = some 166 := by kernel_rfl
theorem cells166 : Tryd.prog.cellsOf 166 = 6 := by kernel_rfl
theorem cells22 : Tryd.prog.cellsOf 22 = 1 := by kernel_rfl

def laid3 : List (String × DataW Unit) := [("io.EOF", Rows.laid_io_EOF), ("io.ErrUnexpectedEOF", Rows.laid_io_ErrUnexpectedEOF), ("loop.example/pub-g03432/pub/image/tiff.lengths", Rows.laid_loop_example_pub_g03432_pub_image_tiff_lengths)]

/-- The table's two cells that the walks read. -/
def Lens (W : World) : Prop := W.cell? ⟨5, 3, none⟩ = some (.int .u32 2) ∧ W.cell? ⟨5, 4, none⟩ = some (.int .u32 4)
theorem lens_of {W : World} (h : laidMet Tryd.prog [("loop.example/pub-g03432/pub/image/tiff.lengths", Rows.laid_loop_example_pub_g03432_pub_image_tiff_lengths)] W) : Lens W := by
  have ht : Lib.TabIs Tryd.prog W "loop.example/pub-g03432/pub/image/tiff.lengths" .u32 [0, 1, 1, 2, 4, 8] := Lib.tabIs_of_head (rest := []) gLen tLen Tryd.underlying166 Tryd.underlying22 cells22 cells166 h
  exact ⟨ht.cell gLen 3 (by decide), ht.cell gLen 4 (by decide)⟩
theorem lens_of3 {W : World} (h : laidMetH Tryd.prog laid3 W) : Lens W :=
  lens_of (show laidMet Tryd.prog laid3 W from (laidMetH_iff.1 h).1).tail.tail

theorem door_met3 (os : Os) (args : Array Value) : laidMetH Tryd.prog laid3 ((World.doorLaid Tryd.prog 78 os).forCall (fun _ _ => 0) ⟨#[], args, []⟩).memory :=
  laidMetH_of_parts3 (fuel := 8) (laidMet_of_run' 8 (by kernel_rfl) (by kernel_rfl)) (by kernel_rfl) (by kernel_rfl)
end Go.Proofs.YtnodmobblamlgaaDoor
