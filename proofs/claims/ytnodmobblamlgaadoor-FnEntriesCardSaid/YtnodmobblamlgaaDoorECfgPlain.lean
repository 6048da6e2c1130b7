/- The plain side of FnConfig: what shades, dots, Same and KindOf give. -/
import Derived.Test.YtnodmobblamlgaaDoorEPFnConfigx7
import Derived.Test.YtnodmobblamlgaaDoorENum
import Derived.Test.YtnodmobblamlgaaDoorEDecT
namespace Go.Proofs.YtnodmobblamlgaaDoor
open Go.RowKit Go.Proofs.YtnodmobblamlgaaDoor.PFnConfig Go.Proofs.YtnodmobblamlgaaDoorW.PrintWords Go.Proofs.YtnodmobblamlgaaDoorW.PrintLast Go.Proofs.YtnodmobblamlgaaDoorW.PrintMore
set_option linter.unusedVariables false
set_option linter.unusedSimpArgs false

/-- A colour of a palette: three bytes, told 257 times, opaque. -/
def ShadeP (p : S57) : Prop := ∃ x y z : Int, p = ⟨257 * x, 257 * y, 257 * z, 65535⟩ ∧ 0 ≤ x ∧ x ≤ 255 ∧ 0 ≤ y ∧ y ≤ 255 ∧ 0 ≤ z ∧ z ≤ 255
theorem rd_byte {l : List Int} (hb : ∀ x ∈ l, 0 ≤ x ∧ x ≤ 255) (i : Int) : 0 ≤ rd l i ∧ rd l i ≤ 255 := by
  unfold rd
  rcases Nat.lt_or_ge i.toNat l.length with h | h
  · rw [List.getD_eq_getElem?_getD, List.getElem?_eq_getElem h]
    exact hb _ (List.getElem_mem h)
  · rw [List.getD_eq_getElem?_getD, List.getElem?_eq_none h]
    simp
theorem tmod_in (a : Int) (n : Nat) (ha : 0 ≤ a) (hn : 0 < n) : 0 ≤ Int.tmod a (n : Int) ∧ Int.tmod a (n : Int) < (n : Int) := by
  rw [Int.tmod_eq_emod_of_nonneg ha]
  exact ⟨Int.emod_nonneg _ (by omega), Int.emod_lt_of_pos _ (by omega)⟩
theorem shades_loop (l : List Int) (hb : ∀ x ∈ l, 0 ≤ x ∧ x ≤ 255) : ∀ (m j : Nat) (ps : List S57), m + j = 256 → ps.length = j → (∀ p ∈ ps, ShadeP p) → ∃ r, laws_shades.l0 (m + 1) l ps (j : Int) = some r ∧ r.length = 256 ∧ ∀ p ∈ r, ShadeP p := by
  intro m
  induction m with
  | zero =>
    intro j ps hj hp hs
    refine ⟨ps, ?_, by omega, hs⟩
    unfold laws_shades.l0
    rw [if_neg (by omega)]
  | succ m ih =>
    intro j ps hj hp hs
    have e1 : wrap64 ((j : Int) + 1) = ((j + 1 : Nat) : Int) := by rw [w64n (by omega) (by omega)]; omega
    have e2 : wrap64 ((j : Int) * 3) = (j : Int) * 3 := w64n (by omega) (by omega)
    have e3 : wrap64 ((j : Int) * 3 + 1) = (j : Int) * 3 + 1 := w64n (by omega) (by omega)
    have e4 : wrap64 ((j : Int) * 5) = (j : Int) * 5 := w64n (by omega) (by omega)
    have e5 : wrap64 ((j : Int) * 5 + 2) = (j : Int) * 5 + 2 := w64n (by omega) (by omega)
    have e6 : wrap64 (257 * (j : Int)) = 257 * (j : Int) := w64n (by omega) (by omega)
    have e7 : wrap64 (257 * wrap64 (255 - (j : Int))) = 257 * (255 - (j : Int)) := by rw [w64n (x := 255 - (j : Int)) (by omega) (by omega), w64n (by omega) (by omega)]
    have e8 : wrap64 ((j : Int) * 7) = (j : Int) * 7 := w64n (by omega) (by omega)
    have ew : ∀ x : Int, 0 ≤ x ∧ x ≤ 255 → wrap64 (257 * wrap64 x) = 257 * x := fun x hx => by rw [w64n (x := x) (by omega) (by omega), w64n (by omega) (by omega)]
    have em : 0 ≤ Int.tmod ((j : Int) * 7) 256 ∧ Int.tmod ((j : Int) * 7) 256 < 256 := tmod_in ((j : Int) * 7) 256 (by omega) (by omega)
    have e9 : wrap64 (257 * Int.tmod ((j : Int) * 7) 256) = 257 * Int.tmod ((j : Int) * 7) 256 := w64n (by omega) (by omega)
    have key : ∀ p : S57, ShadeP p → ∃ r, laws_shades.l0 (m + 1) l (ps ++ [p]) ((j + 1 : Nat) : Int) = some r ∧ r.length = 256 ∧ ∀ p ∈ r, ShadeP p := fun p hp2 =>
      ih (j + 1) (ps ++ [p]) (by omega) (by rw [List.length_append, hp]; rfl) (fun q hq => (List.mem_append.1 hq).elim (hs q) (fun h => by rw [List.mem_singleton.1 h]; exact hp2))
    rw [laws_shades.l0, if_pos (show (j : Int) < 256 by omega)]
    by_cases hl : 0 < l.length
    · have t1 := tmod_in (j : Int) l.length (by omega) hl
      have t2 := tmod_in ((j : Int) * 3 + 1) l.length (by omega) hl
      have t3 := tmod_in ((j : Int) * 5 + 2) l.length (by omega) hl
      rw [if_pos (show (l.length : Int) > 0 by omega), if_neg (show ¬ ((l.length : Int) = 0) by omega), e2, e3, e4, e5, if_pos t1.1, if_pos t1.2, if_pos t2.1, if_pos t2.2, if_pos t3.1, if_pos t3.2, if_pos (show ps.length < 4398046511104 by omega), e1, ew _ (rd_byte hb _), ew _ (rd_byte hb _), ew _ (rd_byte hb _)]
      exact key _ ⟨_, _, _, rfl, (rd_byte hb _).1, (rd_byte hb _).2, (rd_byte hb _).1, (rd_byte hb _).2, (rd_byte hb _).1, (rd_byte hb _).2⟩
    · rw [if_neg (show ¬ ((l.length : Int) > 0) by omega), if_pos (show ps.length < 4398046511104 by omega), e1, e6, e7, e8, e9]
      exact key _ ⟨_, _, _, rfl, by omega, by omega, by omega, by omega, by omega, by omega⟩
theorem shades_f (l : List Int) (hb : ∀ x ∈ l, 0 ≤ x ∧ x ≤ 255) : ∃ ps, laws_shades.f 257 l = some ps ∧ ps.length = 256 ∧ ∀ p ∈ ps, ShadeP p :=
  shades_loop l hb 256 0 [] rfl rfl (by simp)

/-- A byte of a shade as a colour of the palette. -/
def dotOf (s : S76) : S57 := ⟨257 * s.f0, 257 * s.f1, 257 * s.f2, 257 * s.f3⟩
def ByteS (s : S76) : Prop := (0 ≤ s.f0 ∧ s.f0 ≤ 255) ∧ (0 ≤ s.f1 ∧ s.f1 ≤ 255) ∧ (0 ≤ s.f2 ∧ s.f2 ≤ 255) ∧ 0 ≤ s.f3 ∧ s.f3 ≤ 255
/-- The shades that a palette's colours are told as. -/
def shadeOf (p : S57) : S76 := ⟨p.f0 / 256, p.f1 / 256, p.f2 / 256, 255⟩
theorem ShadeP.byte {p : S57} (h : ShadeP p) : ByteS (shadeOf p) ∧ dotOf (shadeOf p) = p := by
  obtain ⟨x, y, z, rfl, h⟩ := h
  have e : ∀ a : Int, 0 ≤ a → a ≤ 255 → 257 * a / 256 = a := fun a h0 h1 => by omega
  refine ⟨⟨?_, ?_, ?_, ?_⟩, ?_⟩
  · show 0 ≤ 257 * x / 256 ∧ 257 * x / 256 ≤ 255
    omega
  · show 0 ≤ 257 * y / 256 ∧ 257 * y / 256 ≤ 255
    omega
  · show 0 ≤ 257 * z / 256 ∧ 257 * z / 256 ≤ 255
    omega
  · show (0 : Int) ≤ 255 ∧ (255 : Int) ≤ 255
    omega
  · show (⟨257 * (257 * x / 256), 257 * (257 * y / 256), 257 * (257 * z / 256), 257 * 255⟩ : S57) = _
    rw [e x (by omega) (by omega), e y (by omega) (by omega), e z (by omega) (by omega)]
    rfl
end Go.Proofs.YtnodmobblamlgaaDoor
