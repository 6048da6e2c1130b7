/- Plain laws over the printed functions: number, Channels, rowOf. -/
import Derived.Test.YtnodmobblamlgaaDoorEPFnConfigx3
namespace Go.Proofs.YtnodmobblamlgaaDoor
open Go.RowKit Go.Proofs.YtnodmobblamlgaaDoor.PFnConfig Go.Proofs.YtnodmobblamlgaaDoorW.PrintWords Go.Proofs.YtnodmobblamlgaaDoorW.PrintLast Go.Proofs.YtnodmobblamlgaaDoorW.PrintMore
set_option linter.unusedVariables false
set_option linter.unusedSimpArgs false

/-- The n bytes of a number. -/
def nb (big : Bool) (n : Nat) (v : Int) : List Int := (List.range n).map fun k => (v / 2 ^ (if big then 8 * (n - 1 - k) else 8 * k)) % 256
theorem nb_length (big : Bool) (n : Nat) (v : Int) : (nb big n v).length = n := by simp [nb]
theorem number2 (big : Bool) (v : Int) (k : Nat) : spec_number.f (k + 3) big 2 v = some (nb big 2 v) := by
  cases big <;> simp [spec_number.f, spec_number.l0, wrap64, shr, nb, List.range_succ, IntKind.bits]
theorem number4 (big : Bool) (v : Int) (k : Nat) : spec_number.f (k + 5) big 4 v = some (nb big 4 v) := by
  cases big <;> simp [spec_number.f, spec_number.l0, wrap64, shr, nb, List.range_succ, IntKind.bits]
theorem w64n {x : Int} (h0 : -1000000000 ≤ x) (h1 : x ≤ 1000000000) : wrap64 x = x := by unfold wrap64; omega

section
variable (b0 : Bool) (x1 x2 x3 x4 x5 x6 : Int) (b7 : Bool) (x8 x9 x10 : Int)
theorem rowOf_j2 (K : Nat) (l out : List Int) (n : Int) (i : Nat) (v : Int) (hd : x5 = 1 ∨ x5 = 8 ∨ x5 = 16) (hi : i < l.length) (hl : l.length ≤ 100000) (ho : out.length ≤ 2 * i) (h0 : 0 < i → 0 < out.length) :
    ∃ out', spec_Tiff_rowOf.j2 (K + 4) l out n i v l l.length i b0 x1 x2 x3 x4 x5 x6 b7 x8 x9 x10 = spec_Tiff_rowOf.l0 (K + 3) l out' n l l.length ((i + 1 : Nat) : Int) b0 x1 x2 x3 x4 x5 x6 b7 x8 x9 x10 ∧ out'.length ≤ 2 * (i + 1) ∧ 0 < out'.length := by
  have e1 : wrap64 ((i : Int) + 1) = ((i + 1 : Nat) : Int) := by rw [w64n (x := (i : Int) + 1) (by omega) (by omega)]; omega
  unfold spec_Tiff_rowOf.j2
  rcases hd with rfl | rfl | rfl
  · rw [if_neg (by decide), if_neg (by decide)]
    have e2 : wrap64 ((i : Int) * 1) = (i : Int) := by rw [Int.mul_one, w64n (x := (i : Int)) (by omega) (by omega)]
    rw [e2, e1]
    have e3 : Int.tmod (i : Int) 8 = (i : Int) % 8 := Int.tmod_eq_emod_of_nonneg (by omega)
    have e5 : wrap64 (8 - 1) = 7 := w64n (x := 8 - 1) (by omega) (by omega)
    rw [e3, e5]
    by_cases c : (i : Int) % 8 = 0
    · rw [if_pos c, if_pos (by omega), if_pos (by omega)]
      exact ⟨_, rfl, by simp; omega, by simp⟩
    · have hp : 0 < out.length := h0 (by omega)
      have e4 : wrap64 ((out.length : Int) - 1) = (out.length : Int) - 1 := w64n (by omega) (by omega)
      have e6 : wrap64 (7 - (i : Int) % 8) = 7 - (i : Int) % 8 := w64n (by omega) (by omega)
      rw [if_neg c, e4, if_pos (by omega), if_pos (by omega), e6, if_pos (by omega)]
      exact ⟨_, rfl, by rw [List.length_set]; omega, by rw [List.length_set]; exact hp⟩
  · rw [if_neg (by decide), if_pos rfl, if_pos (by omega), e1]
    exact ⟨_, rfl, by simp; omega, by simp⟩
  · rw [if_pos rfl, number2]
    simp only [Option.bind_some, nb_length]
    rw [if_pos (by omega), e1]
    exact ⟨_, rfl, by rw [List.length_append, nb_length]; omega, by rw [List.length_append, nb_length]; omega⟩
theorem rowOf_l (l : List Int) (n : Int) (hn : 1 ≤ n) (hn2 : n ≤ 4) (hd : x5 = 1 ∨ x5 = 8 ∨ x5 = 16) (hl : l.length ≤ 100000) : ∀ (m i : Nat) (out : List Int), i + m = l.length → out.length ≤ 2 * i → (0 < i → 0 < out.length) →
    ∃ r, spec_Tiff_rowOf.l0 (3 * m + 6) l out n l l.length i b0 x1 x2 x3 x4 x5 x6 b7 x8 x9 x10 = some r ∧ r.length ≤ 2 * l.length ∧ (0 < l.length → 0 < r.length) := by
  intro m
  induction m with
  | zero =>
    intro i out h ho h0
    unfold spec_Tiff_rowOf.l0
    rw [if_neg (by omega)]
    exact ⟨out, rfl, by omega, fun _ => h0 (by omega)⟩
  | succ m ih =>
    intro i out h ho h0
    have key : ∀ v, ∃ r, spec_Tiff_rowOf.j2 (3 * m + 7) l out n i v l l.length i b0 x1 x2 x3 x4 x5 x6 b7 x8 x9 x10 = some r ∧ r.length ≤ 2 * l.length ∧ (0 < l.length → 0 < r.length) := by
      intro v
      obtain ⟨out', e, h1, h2⟩ := rowOf_j2 b0 x1 x2 x3 x4 x5 x6 b7 x8 x9 x10 (3 * m + 3) l out n i v hd (by omega) hl ho h0
      rw [e]
      exact ih (i + 1) out' (by omega) h1 (fun _ => h2)
    have key1 : ∀ v b, (b = true → n ≤ i) → ∃ r, spec_Tiff_rowOf.j1 (3 * m + 8) l out n i v l l.length i b b0 x1 x2 x3 x4 x5 x6 b7 x8 x9 x10 = some r ∧ r.length ≤ 2 * l.length ∧ (0 < l.length → 0 < r.length) := by
      intro v b hb
      unfold spec_Tiff_rowOf.j1
      cases b
      · rw [if_neg (by decide)]
        exact key v
      · have := hb rfl
        have e1 : wrap64 ((i : Int) - n) = (i : Int) - n := w64n (by omega) (by omega)
        rw [if_pos rfl, e1, if_pos (by omega), if_pos (by omega)]
        exact key _
    show ∃ r, spec_Tiff_rowOf.l0 (3 * m + 9) l out n l l.length i b0 x1 x2 x3 x4 x5 x6 b7 x8 x9 x10 = some r ∧ _
    unfold spec_Tiff_rowOf.l0
    rw [if_pos (by omega), if_pos (by omega), if_pos (by omega)]
    split
    · exact key1 _ _ (fun h => by simpa using h)
    · exact key1 _ _ (fun h => by cases h)
/-- A row's bytes: how many. -/
theorem rowOf_any (l : List Int) (hd : x5 = 1 ∨ x5 = 8 ∨ x5 = 16) (hl : l.length ≤ 100000) :
    ∃ k r, spec_Tiff_rowOf.f k b0 x1 x2 x3 x4 x5 x6 b7 x8 x9 x10 l = some r ∧ r.length ≤ 2 * l.length ∧ (0 < l.length → 0 < r.length) := by
  refine ⟨3 * l.length + 6, ?_⟩
  unfold spec_Tiff_rowOf.f spec_Tiff_Channels.f
  split
  · split
    · exact rowOf_l b0 x1 x2 x3 x4 x5 x6 b7 x8 x9 x10 l 4 (by omega) (by omega) hd hl l.length 0 [] (by omega) (by simp) (by simp)
    · exact rowOf_l b0 x1 x2 x3 x4 x5 x6 b7 x8 x9 x10 l 3 (by omega) (by omega) hd hl l.length 0 [] (by omega) (by simp) (by simp)
  · exact rowOf_l b0 x1 x2 x3 x4 x5 x6 b7 x8 x9 x10 l 1 (by omega) (by omega) hd hl l.length 0 [] (by omega) (by simp) (by simp)
end
end Go.Proofs.YtnodmobblamlgaaDoor
