/- (Tiff).packed: bytes in any packing: how many at most. -/
import Derived.Test.YtnodmobblamlgaaDoorECodedAll
import Derived.Test.YtnodmobblamlgaaDoorERunPlain
namespace Go.Proofs.YtnodmobblamlgaaDoor
open Go.RowKit Go.Proofs.YtnodmobblamlgaaDoor.PFnConfig Go.Proofs.YtnodmobblamlgaaDoorW.PrintWords Go.Proofs.YtnodmobblamlgaaDoorW.PrintLast Go.Proofs.YtnodmobblamlgaaDoorW.PrintMore
set_option linter.unusedVariables false
set_option linter.unusedSimpArgs false

/-- Bytes that can be read, of at most so many. -/
def SomeBytes (W : World) (bound : Nat) (e : Ending) (w' : World) : Prop :=
  ∃ A c ys, e = .returned (.slice A ys.length c) ∧ Kd.C (Kd.int .u8) w' A ys.length ys ∧ ys.length ≤ c ∧ ys.length ≤ bound ∧ Below W.heap.size W w'
theorem NewBytes.some {W w' : World} {bound : Nat} {e : Ending} (h : NewBytes W bound e w') : SomeBytes W bound e w' := by
  obtain ⟨v, ys, rfl, hR, hl, hb⟩ := h
  obtain ⟨A, c, rfl, hc, hC⟩ := Kd.R_reads hR
  exact ⟨A, c, ys, rfl, hC, hc, hl, hb⟩

end Go.Proofs.YtnodmobblamlgaaDoor
