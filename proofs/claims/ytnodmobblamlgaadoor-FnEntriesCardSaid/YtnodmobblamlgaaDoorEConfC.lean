/- laws.FnConfig walked: true, whatever the picture and the colours. -/
import Derived.Test.YtnodmobblamlgaaDoorEConfB
import Derived.Test.YtnodmobblamlgaaDoorEWriteZ
namespace Go.Proofs.YtnodmobblamlgaaDoor
open Go.RowKit Go.Proofs.YtnodmobblamlgaaDoor.PFnConfig Go.Proofs.YtnodmobblamlgaaDoorW.PrintWords Go.Proofs.YtnodmobblamlgaaDoorW.PrintLast Go.Proofs.YtnodmobblamlgaaDoorW.PrintMore
set_option linter.unusedVariables false
set_option linter.unusedSimpArgs false

theorem shades_any (A : Option Addr) (cap : Nat) (xs : List Int) (w : World) (hC : Kd.C (Kd.int .u8) w A xs.length xs) (hc : xs.length ≤ cap) (hb : ∀ x ∈ xs, 0 ≤ x ∧ x ≤ 255) :
    Calls Tryd.prog 8 #[.slice A xs.length cap] w fun e w' => ∃ (A' : Option Addr) (c' : Nat) (ps : List S57), e = .returned (.slice A' 256 c') ∧ 256 ≤ c' ∧ Kd.C k57 w' A' 256 ps ∧ ps.length = 256 ∧ (∀ p ∈ ps, ShadeP p) ∧ Below w.heap.size w w' := by
  obtain ⟨ps, h1, h2, h3⟩ := shades_f xs hb
  refine (laws_shades.calls 257 A cap xs ps w hC hc h1).mono ?_
  rintro e w' ⟨v, rfl, hr, hB⟩
  obtain ⟨A', c', rfl, h4, h5⟩ := Kd.R_reads hr
  rw [h2] at h4 h5 ⊢
  exact ⟨A', c', ps, rfl, h4, h5, h2, h3, hB⟩

theorem samples_c {b0 : Bool} {wide high : Nat} {x3 x4 x5 x6 : Int} {b7 : Bool} {tw th rows : Nat} (h : Shp b0 wide high x3 x4 x5 x6 b7 tw th rows) (W : World) :
    Calls Tryd.prog 7 #[.agg #[.bool b0, .int .i64 wide, .int .i64 high, .int .i64 x3, .int .i64 x4, .int .i64 x5, .int .i64 x6, .bool b7, .int .i64 tw, .int .i64 th, .int .i64 rows], .slice none 0 0] W fun e w' => ∃ (A : Option Addr) (c : Nat) (ss : List Int), e = .returned (.slice A (wide * high * chN x3 x4) c) ∧ wide * high * chN x3 x4 ≤ c ∧ Kd.C (Kd.int .i64) w' A (wide * high * chN x3 x4) ss ∧ Below W.heap.size W w' := by
  have hd := h.depth
  refine (samplesOf_any b0 wide high x3 x4 x5 x6 b7 tw th rows (chN x3 x4) W (chan_f _ _ _ _ _ _ _ _ _ _ _) (by have := h.w2; omega) (by have := h.h2; omega) (chN_le x3 x4).2 (by omega) (by omega)).mono ?_
  rintro e w' ⟨v, ys, rfl, hr, hn, hb⟩
  obtain ⟨A, c, rfl, h1, h2⟩ := Kd.R_reads hr
  rw [hn] at h1 h2 ⊢
  exact ⟨A, c, ys, rfl, h1, h2, hb⟩

end Go.Proofs.YtnodmobblamlgaaDoor
