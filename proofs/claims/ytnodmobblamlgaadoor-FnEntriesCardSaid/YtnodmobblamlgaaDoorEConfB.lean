/- impl.Config over a file that spec.Write makes. -/
import Derived.Test.YtnodmobblamlgaaDoorEConf
namespace Go.Proofs.YtnodmobblamlgaaDoor
open Go.RowKit Go.Proofs.YtnodmobblamlgaaDoor.PFnConfig Go.Proofs.YtnodmobblamlgaaDoorW.PrintWords Go.Proofs.YtnodmobblamlgaaDoorW.PrintLast Go.Proofs.YtnodmobblamlgaaDoorW.PrintMore
set_option linter.unusedVariables false
set_option linter.unusedSimpArgs false

theorem cols_in (ps : List S57) (hs : ∀ p ∈ ps, ShadeP p) : ∀ v ∈ cols ps, 0 ≤ v ∧ v < 65536 := by
  intro v hv
  simp only [cols, List.mem_append, List.mem_map] at hv
  rcases hv with (⟨p, hp, rfl⟩ | ⟨p, hp, rfl⟩) | ⟨p, hp, rfl⟩ <;> obtain ⟨x, y, z, rfl, h⟩ := hs p hp
  · show 0 ≤ 257 * x ∧ 257 * x < 65536
    omega
  · show 0 ≤ 257 * y ∧ 257 * y < 65536
    omega
  · show 0 ≤ 257 * z ∧ 257 * z < 65536
    omega

theorem C_some {W : World} {A : Option Addr} {n : Nat} {k : IntKind} {xs : List Int} (h : Kd.C (Kd.int k) W A n xs) (hn : 0 < n) : ∃ ad, A = some ad := by
  obtain ⟨ad, e, _⟩ := (Kd.reads_of_C (enc := Value.int k) (d := (0 : Int)) h).2.2 hn
  exact ⟨ad, e⟩
theorem Filed.pos {big : Bool} {bs : List Int} {wide high : Nat} {x3 x4 x5 : Int} {ps : List S57} {es : List Ent} (h : Filed big bs wide high x3 x4 x5 ps es) : 0 < bs.length := by
  obtain ⟨d, hD⟩ := h.dir
  have := hD.fit
  have := hD.dir8
  omega
end Go.Proofs.YtnodmobblamlgaaDoor
