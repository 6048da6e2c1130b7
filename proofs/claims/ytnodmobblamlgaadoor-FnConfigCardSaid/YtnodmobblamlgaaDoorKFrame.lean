/- What the rows of this seat share: how a byte slice that came in is opened, what the listed table gives, a start that meets the lists. -/
import Derived.Test.YtnodmobblamlgaaDoorRows
import Derived.Test.YtnodmobblamlgaaDoorTie
import Derived.Test.YtnodmobblamlgaaDoorCards
import Derived.Test.YtnodmobblamlgaaDoorKBase
import Derived.Test.YtnodmobblamlgaaDoorKWAll
import Derived.ProofKit
import Derived.OpenShut
import Derived.OpenVars
import Derived.LaidMore
import Derived.Lib.LaidTab
import Derived.Stop.LaidErr
import Derived.Stop.Joined
namespace Go.Proofs.YtnodmobblamlgaaDoor
open Go.ChangeShapes Go.WideShapes Go.ChangeAt Go.RowKit Go.Proofs.YtnodmobblamlgaaDoorW.PrintWords
set_option linter.unusedVariables false
set_option linter.unusedSimpArgs false

theorem own : ownKnob Tryd.prog.godebug = none := by kernel_rfl
theorem laidOut : laidOutB Tryd.prog = true := by kernel_rfl

/-- A slice of whole numbers that came in. -/
theorem open_row_ints {H : Type} {enc : TypeId × Value → H} {P : Program} {W : World} {base : Nat} {held : Bool} {t e : TypeId} {k : IntKind} {a : Option Addr} {len cap : Nat} {d : DataW H} {p : List MemPlace}
    (ht : P.underlying t = some (.slice e)) (he : P.underlying e = some (.int k)) (hc : P.cellsOf e = 1) (h : DataW.Trod enc P W base (fun _ => true) held t (.slice a len cap) d p) :
    ∃ xs : List Int, xs.length = len ∧ len ≤ cap ∧ len ≤ 9223372036854775807 ∧ Kd.C (Kd.int k) W a len xs ∧ ∀ x ∈ xs, (Lit.int k x).wf = true := by
  obtain ⟨fuel, hf⟩ := h
  rcases open_ints ht he hc hf with ⟨hcs, _⟩ | ⟨x, l, c, zs, hcs, _, hl, hm, hz, _, hcell, hwz⟩
  · simp [Value.cells] at hcs
    obtain ⟨rfl, rfl, rfl⟩ := hcs
    exact ⟨[], rfl, by omega, by omega, Kd.C_nil _ _, by simp⟩
  · simp [Value.cells] at hcs
    obtain ⟨rfl, rfl, rfl⟩ := hcs
    have hz' : zs.length = cap := by simpa using hz
    have hm' : cap ≤ 9223372036854775807 := by simpa [maxLen] using hm
    refine ⟨zs.take len, by rw [List.length_take]; omega, hl, by omega, Kd.C_of_reads (d := (0 : Int)) ⟨by rw [List.length_take]; omega, by omega, fun _ => ⟨x, rfl, fun j hj => ?_⟩⟩, fun y hy => hwz y (List.mem_of_mem_take hy)⟩
    rw [hcell j (by omega)]
    simp [List.getD_eq_getElem?_getD, List.getElem?_take, hj]

theorem gLen : Tryd.prog.globalNamed "loop.example/pub-g03432/pub/image/tiff.lengths" = some 5 := by kernel_rfl
theorem tLen : (Tryd.prog.globals[5]?).map (·.type) = some 166 := by kernel_rfl
theorem cells166 : Tryd.prog.cellsOf 166 = 6 := by kernel_rfl
theorem cells22 : Tryd.prog.cellsOf 22 = 1 := by kernel_rfl
theorem cells5 : Tryd.prog.cellsOf 5 = 1 := by kernel_rfl

def laid4 : List (String × DataW Unit) := [("errors.errorType", Rows.laid_errors_errorType), ("io.EOF", Rows.laid_io_EOF), ("io.ErrUnexpectedEOF", Rows.laid_io_ErrUnexpectedEOF), ("loop.example/pub-g03432/pub/image/tiff.lengths", Rows.laid_loop_example_pub_g03432_pub_image_tiff_lengths)]
def laid3 : List (String × DataW Unit) := [("io.EOF", Rows.laid_io_EOF), ("io.ErrUnexpectedEOF", Rows.laid_io_ErrUnexpectedEOF), ("loop.example/pub-g03432/pub/image/tiff.lengths", Rows.laid_loop_example_pub_g03432_pub_image_tiff_lengths)]

/-- The table's two cells that the walks read. -/
def Lens (W : World) : Prop := W.cell? ⟨5, 3, none⟩ = some (.int .u32 2) ∧ W.cell? ⟨5, 4, none⟩ = some (.int .u32 4)
theorem lens_of {W : World} (h : laidMet Tryd.prog [("loop.example/pub-g03432/pub/image/tiff.lengths", Rows.laid_loop_example_pub_g03432_pub_image_tiff_lengths)] W) : Lens W := by
  have ht : Lib.TabIs Tryd.prog W "loop.example/pub-g03432/pub/image/tiff.lengths" .u32 [0, 1, 1, 2, 4, 8] := Lib.tabIs_of_head (rest := []) gLen tLen Tryd.underlying166 Tryd.underlying22 cells22 cells166 h
  exact ⟨ht.cell gLen 3 (by decide), ht.cell gLen 4 (by decide)⟩
theorem lens_of4 {W : World} (h : laidMetH Tryd.prog laid4 W) : Lens W :=
  lens_of (show laidMet Tryd.prog laid3 W from (laidMetH_iff.1 h).1).tail.tail

/-- The door's own heap meets the lists. -/
theorem door_met4 (os : Os) (args : Array Value) : laidMetH Tryd.prog laid4 ((World.doorLaid Tryd.prog 78 os).forCall (fun _ _ => 0) ⟨#[], args, []⟩).memory :=
  laidMetH_of_parts3 (fuel := 8) (laidMet_of_run' 8 (by kernel_rfl) (by kernel_rfl)) (by kernel_rfl) (by kernel_rfl)
end Go.Proofs.YtnodmobblamlgaaDoor
