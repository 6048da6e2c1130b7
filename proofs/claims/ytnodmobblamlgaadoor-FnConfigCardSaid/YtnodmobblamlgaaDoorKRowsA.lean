/- spec.rows over a file of rows: a map from each tag to its numbers. -/
import Derived.Test.YtnodmobblamlgaaDoorKMapI
import Derived.Test.YtnodmobblamlgaaDoorKReads
import Derived.Test.YtnodmobblamlgaaDoorKWriteH
namespace Go.Proofs.YtnodmobblamlgaaDoor
open Go.RowKit Go.Maps Go.Proofs.YtnodmobblamlgaaDoor.PFnConfig Go.Proofs.YtnodmobblamlgaaDoorW.PrintWords Go.Proofs.YtnodmobblamlgaaDoorW.PrintLast Go.Proofs.YtnodmobblamlgaaDoorW.PrintMore
set_option linter.unusedVariables false
set_option linter.unusedSimpArgs false

theorem tags_ne (es : List Ent) (h : es.Pairwise (fun a b => a.tag < b.tag)) (k : Nat) (x : Ent) (hx : es[k]? = some x) (e : Ent) (he : e ∈ es.take k) : e.tag < x.tag := by
  obtain ⟨hk, hx'⟩ := List.getElem?_eq_some_iff.1 hx
  obtain ⟨i, hi, rfl⟩ := List.getElem_of_mem he
  rw [List.length_take] at hi
  rw [List.getElem_take, ← hx']
  exact List.pairwise_iff_getElem.1 h i k (by omega) hk (by omega)
theorem tags_next (es : List Ent) (h : es.Pairwise (fun a b => a.tag < b.tag)) (k : Nat) (x : Ent) (hx : es[k]? = some x) (j : Nat) (e : Ent) (hj : k + 1 ≤ j) (he : es[j]? = some e) : x.tag < e.tag := by
  obtain ⟨hk, hx'⟩ := List.getElem?_eq_some_iff.1 hx
  obtain ⟨hj', he'⟩ := List.getElem?_eq_some_iff.1 he
  rw [← hx', ← he']
  exact List.pairwise_iff_getElem.1 h k j hk hj' (by omega)

      -- >
end Go.Proofs.YtnodmobblamlgaaDoor
