/- What the rows of this seat share: how a byte slice that came in is opened, what the listed sentinels give, a start that meets the list. -/
import Derived.Test.YtloflgkidclhoaaDoorRows
import Derived.Test.YtloflgkidclhoaaDoorTie
import Derived.Test.YtloflgkidclhoaaDoorCards
import Derived.Test.YtloflgkidclhoaaDoorWalkF
import Derived.Test.YtloflgkidclhoaaDoorWSized
import Derived.ProofKit
import Derived.OpenShut
import Derived.LaidMore
import Derived.Stop.LaidErr
import Derived.Stop.Joined
namespace Go.Proofs.YtloflgkidclhoaaDoor
open Go.ChangeShapes Go.WideShapes Go.ChangeAt Go.RowKit Go.Proofs.YtloflgkidclhoaaDoorW.PrintWords
set_option linter.unusedVariables false
set_option linter.unusedSimpArgs false

theorem own : ownKnob Tryd.prog.godebug = none := by kernel_rfl
theorem laidOut : laidOutB Tryd.prog = true := by kernel_rfl

/-- A slice of whole numbers that came in. -/
theorem open_row_ints {H : Type} {enc : TypeId × Value → H} {P : Program} {W : World} {base : Nat} {held : Bool} {t e : TypeId} {k : IntKind} {a : Option Addr} {len cap : Nat} {d : DataW H} {p : List MemPlace}
    (ht : P.underlying t = some (.slice e)) (he : P.underlying e = some (.int k)) (hc : P.cellsOf e = 1) (h : DataW.Trod enc P W base (fun _ => true) held t (.slice a len cap) d p) :
    ∃ xs : List Int, xs.length = len ∧ len ≤ cap ∧ len ≤ 9223372036854775807 ∧ Kd.C (Kd.int k) W a len xs ∧ ∀ x ∈ xs, (Lit.int k x).wf = true := by
  obtain ⟨fuel, hf⟩ := h
  rcases open_ints ht he hc hf with ⟨hcs, _⟩ | ⟨x, l, c, zs, hcs, _, hl, hm, hz, _, hcell, hwz⟩
  · simp [Value.cells] at hcs
    obtain ⟨rfl, rfl, rfl⟩ := hcs
    exact ⟨[], rfl, by omega, by omega, Kd.C_nil _ _, by simp⟩
  · simp [Value.cells] at hcs
    obtain ⟨rfl, rfl, rfl⟩ := hcs
    have hz' : zs.length = cap := by simpa using hz
    have hm' : cap ≤ 9223372036854775807 := by simpa [maxLen] using hm
    refine ⟨zs.take len, by rw [List.length_take]; omega, hl, by omega, Kd.C_of_reads (d := (0 : Int)) ⟨by rw [List.length_take]; omega, by omega, fun _ => ⟨x, rfl, fun j hj => ?_⟩⟩, fun y hy => hwz y (List.mem_of_mem_take hy)⟩
    rw [hcell j (by omega)]
    simp [List.getD_eq_getElem?_getD, List.getElem?_take, hj]

theorem gEof : Tryd.prog.globalNamed "io.EOF" = some 0 := by kernel_rfl
theorem gShort : Tryd.prog.globalNamed "io.ErrShortBuffer" = some 1 := by kernel_rfl
theorem gUn : Tryd.prog.globalNamed "io.ErrUnexpectedEOF" = some 2 := by kernel_rfl
theorem tEof : (Tryd.prog.globals[0]?).map (·.type) = some 30 := by kernel_rfl
theorem tShort : (Tryd.prog.globals[1]?).map (·.type) = some 30 := by kernel_rfl
theorem tUn : (Tryd.prog.globals[2]?).map (·.type) = some 30 := by kernel_rfl
theorem cells79 : Tryd.prog.cellsOf 79 = 1 := by kernel_rfl
theorem cells9 : Tryd.prog.cellsOf 9 = 1 := by kernel_rfl
theorem cells5 : Tryd.prog.cellsOf 5 = 1 := by kernel_rfl
theorem name58 : Tryd.prog.typeName? 3 58 = some "*errors.errorString" := by kernel_rfl

def laid3 : List (String × DataW Unit) := [("io.ErrShortBuffer", Rows.laid_io_ErrShortBuffer), ("io.EOF", Rows.laid_io_EOF), ("io.ErrUnexpectedEOF", Rows.laid_io_ErrUnexpectedEOF)]

theorem star : "*" ++ "errors.errorString" = "*errors.errorString" := by decide
theorem row58 (u : TypeId) (h : Tryd.prog.typeName? 3 u = some "*errors.errorString") : u = 58 :=
  typeName_ptr_named (nm := "errors.errorString") (by rw [star]; kernel_rfl) (by kernel_rfl) (by decide) u (by rw [star]; exact h)

/-- The list gives the walks their two sentinels. -/
theorem sent_of_laid {W : World} (h : laidMetH Tryd.prog laid3 W) : Sent W := by
  rw [MakeChecks.laidMetH_plain _ _ _ (by kernel_rfl)] at h
  obtain ⟨a0, s0, hv0, _⟩ := laid_sentinel h.tail gEof tEof Tryd.underlying30 row58 Tryd.underlying58 Tryd.underlying79 rfl rfl Tryd.underlying9 cells79 cells9
  obtain ⟨a2, s2, hv2, _⟩ := laid_sentinel h.tail.tail gUn tUn Tryd.underlying30 row58 Tryd.underlying58 Tryd.underlying79 rfl rfl Tryd.underlying9 cells79 cells9
  have h2 : W.cell? ⟨2, 0, none⟩ = some (.iface 58 (.pointer (some a2))) := by simpa using World.var?_cell gUn hv2 0
  exact ⟨⟨a0, by simpa using World.var?_cell gEof hv0 0⟩, ⟨a2, h2⟩, World.block_lt_of_cell? W _ h2⟩

/-- The door's own heap meets the list. -/
theorem door_met (os : Os) (args : Array Value) : laidMetH Tryd.prog laid3 ((World.doorLaid Tryd.prog 104 os).forCall (fun _ _ => 0) ⟨#[], args, []⟩).memory :=
  laidMetH_of_parts3 (fuel := 8) (laidMet_of_run' 8 (by kernel_rfl) (by kernel_rfl)) (by kernel_rfl) (by kernel_rfl)
end Go.Proofs.YtloflgkidclhoaaDoor
