/- The rows that spec.Write makes, as the decoder wants them. -/
import Derived.Test.YtnodmobblamlgaaDoorKDecK
import Derived.Test.YtnodmobblamlgaaDoorKEnts
namespace Go.Proofs.YtnodmobblamlgaaDoor
open Go.RowKit Go.Proofs.YtnodmobblamlgaaDoor.PFnConfig Go.Proofs.YtnodmobblamlgaaDoorW.PrintWords
set_option linter.unusedVariables false
set_option linter.unusedSimpArgs false

theorem ents_cfg (wide high : Nat) (x3 x4 x5 x6 : Int) (b7 : Bool) (tw th rows ch : Nat) (pl sz : List Int) (ps : List S57) (h4 : 0 ≤ x4) (h2 : x4 ≠ 0 → x3 = 2) : Cfg (entsOf wide high x3 x4 x5 x6 b7 tw th rows ch pl sz ps) wide high x3 x4 x5 ch :=
  ⟨⟨⟨256, 3, [(wide : Int)]⟩, by simp [entsOf, ents0], rfl, rfl⟩, ⟨⟨257, 4, [(high : Int)]⟩, by simp [entsOf, ents0], rfl, rfl⟩, ⟨⟨258, 3, List.replicate ch x5⟩, by simp [entsOf, ents0], rfl, rfl⟩, ⟨⟨262, 3, [x3]⟩, by simp [entsOf, ents0], rfl, rfl⟩,
    fun h => ⟨⟨338, 3, [x4]⟩, by have h0 : x3 = 2 ∧ 0 < x4 := ⟨h2 h, by omega⟩; simp only [entsOf, entsF, if_pos h0, List.mem_append]; exact .inr (by simp), rfl, rfl⟩⟩
theorem ents_cls (wide high : Nat) (x3 x4 x5 x6 : Int) (b7 : Bool) (tw th rows ch : Nat) (pl sz : List Int) (ps : List S57) (hl : ps.length = 256) (hps : ∀ v ∈ cols ps, 0 ≤ v ∧ v < 65536) :
    ∀ e ∈ entsOf wide high x3 x4 x5 x6 b7 tw th rows ch pl sz ps, stored e.tag ∨ e.tag = 277 ∨ (e.tag = 320 ∧ e.nums.length = 768 ∧ ∀ v ∈ e.nums, 0 ≤ v ∧ v < 65536) := by
  intro e he
  unfold stored
  simp only [entsOf, List.mem_append] at he
  rcases he with ((((((he | he) | he) | he) | he) | he) | he) | he
  · simp only [ents0, List.mem_cons, List.not_mem_nil, or_false] at he
    rcases he with rfl | rfl | rfl | rfl | rfl <;> simp
  · unfold entsA at he
    split at he
    · obtain rfl := List.mem_singleton.1 he
      simp
    · cases he
  · obtain rfl := List.mem_singleton.1 he
    simp
  · unfold entsB at he
    split at he
    · simp only [List.mem_cons, List.not_mem_nil, or_false] at he
      rcases he with rfl | rfl <;> simp
    · cases he
  · unfold entsC at he
    split at he
    · obtain rfl := List.mem_singleton.1 he
      simp
    · cases he
  · unfold entsD at he
    split at he
    · obtain rfl := List.mem_singleton.1 he
      have := cols_length ps
      exact .inr (.inr ⟨rfl, by show (cols ps).length = 768; omega, hps⟩)
    · cases he
  · unfold entsE at he
    split at he
    · simp only [List.mem_cons, List.not_mem_nil, or_false] at he
      rcases he with rfl | rfl | rfl | rfl <;> simp
    · cases he
  · unfold entsF at he
    split at he
    · obtain rfl := List.mem_singleton.1 he
      simp
    · cases he
end Go.Proofs.YtnodmobblamlgaaDoor
