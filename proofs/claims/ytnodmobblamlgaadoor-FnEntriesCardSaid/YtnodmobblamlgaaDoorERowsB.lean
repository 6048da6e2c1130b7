/- spec.Rows over a file of rows. -/
import Derived.Test.YtnodmobblamlgaaDoorERowsA
namespace Go.Proofs.YtnodmobblamlgaaDoor
open Go.RowKit Go.Maps Go.Proofs.YtnodmobblamlgaaDoorW.PrintWords Go.Proofs.YtnodmobblamlgaaDoorW.PrintLast Go.Proofs.YtnodmobblamlgaaDoorW.PrintMore
set_option linter.unusedVariables false
set_option linter.unusedSimpArgs false

set_option maxRecDepth 100000 in
set_option maxHeartbeats 1600000 in
theorem Rows_any (big : Bool) (A : Option Addr) (c dir : Nat) (bs : List Int) (es : List Ent) (W : World) (hD : Dir big bs dir es) (hok : ∀ e ∈ es, EntOk e) (hasc : es.Pairwise (fun a b => a.tag < b.tag)) (hn16 : es.length ≤ 16) (hl : bs.length ≤ 13000000) (hlc : bs.length ≤ c) (hC : Kd.C (Kd.int .u8) W A bs.length bs) :
    Calls Tryd.prog 9 #[.slice A bs.length c] W (fun e w' => e = .returned (.map (some W.heap.size)) ∧ MapRows w' W.heap.size W.heap.size 100000 es ∧ Below W.heap.size W w') := by
  have RR := Aside0.mk (rows_any big A c dir bs es W hD hok hasc hn16 hl hlc hC)
  have hfit := hD.fit
  have hd8 := hD.dir8
  have h0 : bs[0]? = some (if big then 77 else 73) := by
    have h := hD.head
    have h1 : (bs.take 4)[0]? = bs[0]? := List.getElem?_take_of_lt (by omega)
    rw [← h1, h]
    cases big <;> rfl
  obtain ⟨ad, rfl, hc0, _, _⟩ := C_at hC (by omega)
  have hcell := hc0 _ h0
  have hpos : (0 : Int) < (bs.length : Int) := by omega
  clear hD hok hasc hC hc0 h0 hfit
  generalize bs.length = N at *
  cases big
  · have hcell' : W.cell? ad = some (.int .u8 73) := hcell
    clear hcell
    go_enter Tryd.func9, Tryd.ntmps9
    go_wp2_with (go_at_call 20; (with_reducible refine RR.out.mono ?_); rintro e w1 ⟨rfl, k1, k2⟩; have K1 := Aside0.mk k1; have K2 := Aside0.mk k2; clear k1 k2)
    go_ret
    exact ⟨rfl, K1.out, K2.out⟩
  · have hcell' : W.cell? ad = some (.int .u8 77) := hcell
    clear hcell
    go_enter Tryd.func9, Tryd.ntmps9
    go_wp2_with (go_at_call 20; (with_reducible refine RR.out.mono ?_); rintro e w1 ⟨rfl, k1, k2⟩; have K1 := Aside0.mk k1; have K2 := Aside0.mk k2; clear k1 k2)
    go_ret
    exact ⟨rfl, K1.out, K2.out⟩
end Go.Proofs.YtnodmobblamlgaaDoor
