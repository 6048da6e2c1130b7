/- The plain side of FnConfig: what shades, dots, Same and KindOf give. -/
import Derived.Test.YtnodmobblamlgaaDoorKPFnConfigx7
import Derived.Test.YtnodmobblamlgaaDoorKNum
import Derived.Test.YtnodmobblamlgaaDoorKDecT
namespace Go.Proofs.YtnodmobblamlgaaDoor
open Go.RowKit Go.Proofs.YtnodmobblamlgaaDoor.PFnConfig Go.Proofs.YtnodmobblamlgaaDoorW.PrintWords Go.Proofs.YtnodmobblamlgaaDoorW.PrintLast Go.Proofs.YtnodmobblamlgaaDoorW.PrintMore
set_option linter.unusedVariables false
set_option linter.unusedSimpArgs false

/-- A colour of a palette: three bytes, told 257 times, opaque. -/
def ShadeP (p : S57) : Prop := ∃ x y z : Int, p = ⟨257 * x, 257 * y, 257 * z, 65535⟩ ∧ 0 ≤ x ∧ x ≤ 255 ∧ 0 ≤ y ∧ y ≤ 255 ∧ 0 ≤ z ∧ z ≤ 255
theorem rd_byte {l : List Int} (hb : ∀ x ∈ l, 0 ≤ x ∧ x ≤ 255) (i : Int) : 0 ≤ rd l i ∧ rd l i ≤ 255 := by
  unfold rd
  rcases Nat.lt_or_ge i.toNat l.length with h | h
  · rw [List.getD_eq_getElem?_getD, List.getElem?_eq_getElem h]
    exact hb _ (List.getElem_mem h)
  · rw [List.getD_eq_getElem?_getD, List.getElem?_eq_none h]
    simp
theorem tmod_in (a : Int) (n : Nat) (ha : 0 ≤ a) (hn : 0 < n) : 0 ≤ Int.tmod a (n : Int) ∧ Int.tmod a (n : Int) < (n : Int) := by
  rw [Int.tmod_eq_emod_of_nonneg ha]
  exact ⟨Int.emod_nonneg _ (by omega), Int.emod_lt_of_pos _ (by omega)⟩
theorem shades_loop (l : List Int) (hb : ∀ x ∈ l, 0 ≤ x ∧ x ≤ 255) : ∀ (m j : Nat) (ps : List S57), m + j = 256 → ps.length = j → (∀ p ∈ ps, ShadeP p) → ∃ r, laws_shades.l0 (m + 1) l ps (j : Int) = some r ∧ r.length = 256 ∧ ∀ p ∈ r, ShadeP p := by
  intro m
  induction m with
  | zero =>
    intro j ps hj hp hs
    refine ⟨ps, ?_, by omega, hs⟩
    unfold laws_shades.l0
    rw [if_neg (by omega)]
  | succ m ih =>
    intro j ps hj hp hs
    have e1 : wrap64 ((j : Int) + 1) = ((j + 1 : Nat) : Int) := by rw [w64n (by omega) (by omega)]; omega
    have e2 : wrap64 ((j : Int) * 3) = (j : Int) * 3 := w64n (by omega) (by omega)
    have e3 : wrap64 ((j : Int) * 3 + 1) = (j : Int) * 3 + 1 := w64n (by omega) (by omega)
    have e4 : wrap64 ((j : Int) * 5) = (j : Int) * 5 := w64n (by omega) (by omega)
    have e5 : wrap64 ((j : Int) * 5 + 2) = (j : Int) * 5 + 2 := w64n (by omega) (by omega)
    have e6 : wrap64 (257 * (j : Int)) = 257 * (j : Int) := w64n (by omega) (by omega)
    have e7 : wrap64 (257 * wrap64 (255 - (j : Int))) = 257 * (255 - (j : Int)) := by rw [w64n (x := 255 - (j : Int)) (by omega) (by omega), w64n (by omega) (by omega)]
    have e8 : wrap64 ((j : Int) * 7) = (j : Int) * 7 := w64n (by omega) (by omega)
    have ew : ∀ x : Int, 0 ≤ x ∧ x ≤ 255 → wrap64 (257 * wrap64 x) = 257 * x := fun x hx => by rw [w64n (x := x) (by omega) (by omega), w64n (by omega) (by omega)]
    have em : 0 ≤ Int.tmod ((j : Int) * 7) 256 ∧ Int.tmod ((j : Int) * 7) 256 < 256 := tmod_in ((j : Int) * 7) 256 (by omega) (by omega)
    have e9 : wrap64 (257 * Int.tmod ((j : Int) * 7) 256) = 257 * Int.tmod ((j : Int) * 7) 256 := w64n (by omega) (by omega)
    have key : ∀ p : S57, ShadeP p → ∃ r, laws_shades.l0 (m + 1) l (ps ++ [p]) ((j + 1 : Nat) : Int) = some r ∧ r.length = 256 ∧ ∀ p ∈ r, ShadeP p := fun p hp2 =>
      ih (j + 1) (ps ++ [p]) (by omega) (by rw [List.length_append, hp]; rfl) (fun q hq => (List.mem_append.1 hq).elim (hs q) (fun h => by rw [List.mem_singleton.1 h]; exact hp2))
    rw [laws_shades.l0, if_pos (show (j : Int) < 256 by omega)]
    by_cases hl : 0 < l.length
    · have t1 := tmod_in (j : Int) l.length (by omega) hl
      have t2 := tmod_in ((j : Int) * 3 + 1) l.length (by omega) hl
      have t3 := tmod_in ((j : Int) * 5 + 2) l.length (by omega) hl
      rw [if_pos (show (l.length : Int) > 0 by omega), if_neg (show ¬ ((l.length : Int) = 0) by omega), e2, e3, e4, e5, if_pos t1.1, if_pos t1.2, if_pos t2.1, if_pos t2.2, if_pos t3.1, if_pos t3.2, if_pos (show ps.length < 4398046511104 by omega), e1, ew _ (rd_byte hb _), ew _ (rd_byte hb _), ew _ (rd_byte hb _)]
      exact key _ ⟨_, _, _, rfl, (rd_byte hb _).1, (rd_byte hb _).2, (rd_byte hb _).1, (rd_byte hb _).2, (rd_byte hb _).1, (rd_byte hb _).2⟩
    · rw [if_neg (show ¬ ((l.length : Int) > 0) by omega), if_pos (show ps.length < 4398046511104 by omega), e1, e6, e7, e8, e9]
      exact key _ ⟨_, _, _, rfl, by omega, by omega, by omega, by omega, by omega, by omega⟩
theorem shades_f (l : List Int) (hb : ∀ x ∈ l, 0 ≤ x ∧ x ≤ 255) : ∃ ps, laws_shades.f 257 l = some ps ∧ ps.length = 256 ∧ ∀ p ∈ ps, ShadeP p :=
  shades_loop l hb 256 0 [] rfl rfl (by simp)

/-- A byte of a shade as a colour of the palette. -/
def dotOf (s : S76) : S57 := ⟨257 * s.f0, 257 * s.f1, 257 * s.f2, 257 * s.f3⟩
def ByteS (s : S76) : Prop := (0 ≤ s.f0 ∧ s.f0 ≤ 255) ∧ (0 ≤ s.f1 ∧ s.f1 ≤ 255) ∧ (0 ≤ s.f2 ∧ s.f2 ≤ 255) ∧ 0 ≤ s.f3 ∧ s.f3 ≤ 255
theorem dots_loop (l : List S76) (hl : l.length ≤ 256) (hb : ∀ s ∈ l, ByteS s) : ∀ (m j : Nat), m + j = l.length → laws_dots.l0 (m + 1) ((l.take j).map dotOf) l (l.length : Int) (j : Int) = some (l.map dotOf) := by
  intro m
  induction m with
  | zero =>
    intro j hj
    obtain rfl : j = l.length := by omega
    rw [laws_dots.l0, if_neg (by omega), List.take_length]
  | succ m ih =>
    intro j hj
    have hj2 : j < l.length := by omega
    have e1 : wrap64 ((j : Int) + 1) = ((j + 1 : Nat) : Int) := by rw [w64n (by omega) (by omega)]; omega
    have ew : ∀ x : Int, 0 ≤ x ∧ x ≤ 255 → wrap64 (257 * wrap64 x) = 257 * x := fun x hx => by rw [w64n (x := x) (by omega) (by omega), w64n (by omega) (by omega)]
    have hr : rd_T76 l (j : Int) = l[j] := by simp [rd_T76, List.getD_eq_getElem?_getD, List.getElem?_eq_getElem hj2]
    have hB := hb _ (List.getElem_mem hj2)
    rw [laws_dots.l0, if_pos (show (j : Int) < (l.length : Int) by omega), if_pos (show 0 ≤ (j : Int) by omega), if_pos (show (j : Int) < (l.length : Int) by omega), if_pos (by rw [List.length_map, List.length_take]; omega), e1, hr, ew _ hB.1, ew _ hB.2.1, ew _ hB.2.2.1, ew _ hB.2.2.2]
    have h2 := ih (j + 1) (by omega)
    rw [List.take_succ_eq_append_getElem hj2, List.map_append] at h2
    exact h2
theorem dots_f (l : List S76) (hl : l.length ≤ 256) (hb : ∀ s ∈ l, ByteS s) : laws_dots.f (l.length + 1) l = some (l.map dotOf) := by
  have h := dots_loop l hl hb l.length 0 rfl
  rwa [List.take_zero, List.map_nil] at h
theorem same_loop (l : List S57) (hl : l.length ≤ 256) : ∀ (m j : Nat), m + j = l.length → spec_Same.l0 (m + 1) l l (l.length : Int) (j : Int) = some true := by
  intro m
  induction m with
  | zero =>
    intro j hj
    rw [spec_Same.l0, if_neg (by omega)]
  | succ m ih =>
    intro j hj
    have e1 : wrap64 ((j : Int) + 1) = ((j + 1 : Nat) : Int) := by rw [w64n (by omega) (by omega)]; omega
    rw [spec_Same.l0, if_pos (show (j : Int) < (l.length : Int) by omega), if_pos (show 0 ≤ (j : Int) by omega), if_pos (show (j : Int) < (l.length : Int) by omega), if_pos (show (j : Int) < (l.length : Int) by omega), if_neg (by simp), e1]
    exact ih (j + 1) (by omega)
theorem same_f (l : List S57) (hl : l.length ≤ 256) : spec_Same.f (l.length + 1) l l = some true := by
  rw [spec_Same.f, if_pos rfl]
  exact same_loop l hl l.length 0 rfl
/-- The shades that a palette's colours are told as. -/
def shadeOf (p : S57) : S76 := ⟨p.f0 / 256, p.f1 / 256, p.f2 / 256, 255⟩
theorem ShadeP.byte {p : S57} (h : ShadeP p) : ByteS (shadeOf p) ∧ dotOf (shadeOf p) = p := by
  obtain ⟨x, y, z, rfl, h⟩ := h
  have e : ∀ a : Int, 0 ≤ a → a ≤ 255 → 257 * a / 256 = a := fun a h0 h1 => by omega
  refine ⟨⟨?_, ?_, ?_, ?_⟩, ?_⟩
  · show 0 ≤ 257 * x / 256 ∧ 257 * x / 256 ≤ 255
    omega
  · show 0 ≤ 257 * y / 256 ∧ 257 * y / 256 ≤ 255
    omega
  · show 0 ≤ 257 * z / 256 ∧ 257 * z / 256 ≤ 255
    omega
  · show (0 : Int) ≤ 255 ∧ (255 : Int) ≤ 255
    omega
  · show (⟨257 * (257 * x / 256), 257 * (257 * y / 256), 257 * (257 * z / 256), 257 * 255⟩ : S57) = _
    rw [e x (by omega) (by omega), e y (by omega) (by omega), e z (by omega) (by omega)]
    rfl
theorem kind_f (b0 : Bool) (wide high : Int) (x3 x4 x5 x6 : Int) (b7 : Bool) (tw th rows : Int) (h3 : x3 = 0 ∨ x3 = 1 ∨ x3 = 2 ∨ x3 = 3) : spec_Tiff_KindOf.f 1 b0 wide high x3 x4 x5 x6 b7 tw th rows = some (kindN x3 x4 x5) := by
  have w1 : wrap64 (1 + 1) = 2 := by simp [wrap64]
  have w2 : wrap64 (5 + 1) = 6 := by simp [wrap64]
  have w3 : wrap64 (3 + 1) = 4 := by simp [wrap64]
  have w4 : wrap64 (1 + 0) = 1 := by simp [wrap64]
  have w5 : wrap64 (5 + 0) = 5 := by simp [wrap64]
  have w6 : wrap64 (3 + 0) = 3 := by simp [wrap64]
  unfold spec_Tiff_KindOf.f kindN
  simp only [spec_Tiff_KindOf.j0, w1, w2, w3, w4, w5, w6]
  rcases h3 with rfl | rfl | rfl | rfl <;> by_cases h5 : x5 = 16 <;> by_cases h4 : x4 = 2 <;> simp [h5, h4]
end Go.Proofs.YtnodmobblamlgaaDoor
