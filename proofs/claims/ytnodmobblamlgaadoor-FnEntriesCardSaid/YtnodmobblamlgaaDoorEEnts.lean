/- The rows of the directory that spec.Write makes of a picture of numbers: which they are; their kinds, their numbers, their order. -/
import Derived.Test.YtnodmobblamlgaaDoorEDir
import Derived.Test.YtnodmobblamlgaaDoorEColors
namespace Go.Proofs.YtnodmobblamlgaaDoor
open Go.RowKit Go.Proofs.YtnodmobblamlgaaDoor.PFnConfig Go.Proofs.YtnodmobblamlgaaDoorW.PrintWords
set_option linter.unusedVariables false
set_option linter.unusedSimpArgs false

/-- The first rows of the directory. -/
def ents0 (wide high : Nat) (x3 x5 x6 : Int) (ch : Nat) : List Ent := [⟨256, 3, [(wide : Int)]⟩, ⟨257, 4, [(high : Int)]⟩, ⟨258, 3, List.replicate ch x5⟩, ⟨259, 3, [x6]⟩, ⟨262, 3, [x3]⟩]
def entsA (tw : Nat) (pl : List Int) : List Ent := if tw = 0 then [⟨273, 4, pl⟩] else []
def entsB (tw rows : Nat) (sz : List Int) : List Ent := if tw = 0 then [⟨278, 4, [(rows : Int)]⟩, ⟨279, 4, sz⟩] else []
def entsC (b7 : Bool) : List Ent := if b7 = true then [⟨317, 3, [2]⟩] else []
def entsD (x3 : Int) (ps : List S57) : List Ent := if x3 = 3 then [⟨320, 3, cols ps⟩] else []
def entsE (tw th : Nat) (pl sz : List Int) : List Ent := if 0 < tw then [⟨322, 3, [(tw : Int)]⟩, ⟨323, 3, [(th : Int)]⟩, ⟨324, 4, pl⟩, ⟨325, 4, sz⟩] else []
def entsF (x3 x4 : Int) : List Ent := if x3 = 2 ∧ 0 < x4 then [⟨338, 3, [x4]⟩] else []
def entsOf (wide high : Nat) (x3 x4 x5 x6 : Int) (b7 : Bool) (tw th rows ch : Nat) (pl sz : List Int) (ps : List S57) : List Ent :=
  ((((((ents0 wide high x3 x5 x6 ch ++ entsA tw pl) ++ [⟨277, 3, [(ch : Int)]⟩]) ++ entsB tw rows sz) ++ entsC b7) ++ entsD x3 ps) ++ entsE tw th pl sz) ++ entsF x3 x4

/-- A row as a reader wants it. -/
structure EntOk (e : Ent) : Prop where
  tag1 : 256 ≤ e.tag
  tag2 : e.tag ≤ 338
  kind : e.kind = 3 ∨ e.kind = 4
  n1 : 1 ≤ e.nums.length
  n2 : e.nums.length ≤ 768
  vals : ∀ v ∈ e.nums, 0 ≤ v ∧ (e.kind = 3 → v < 65536) ∧ v < 4294967296

theorem cols_length (ps : List S57) : (cols ps).length = 3 * ps.length := by simp [cols]; omega
theorem ents_ok (wide high : Nat) (x3 x4 x5 x6 : Int) (b7 : Bool) (tw th rows ch : Nat) (pl sz : List Int) (ps : List S57)
    (hw : wide ≤ 96) (hh : high ≤ 40) (h3 : 0 ≤ x3 ∧ x3 ≤ 3) (h4 : x4 ≤ 2) (h5 : 0 ≤ x5 ∧ x5 ≤ 16) (h6 : 0 ≤ x6 ∧ x6 ≤ 32946) (ht : tw ≤ 32 ∧ th ≤ 32) (hr : rows ≤ 40) (hc : 1 ≤ ch ∧ ch ≤ 4)
    (hp : 1 ≤ pl.length ∧ pl.length ≤ 40) (hs : sz.length = pl.length) (hpv : ∀ v ∈ pl, 0 ≤ v ∧ v < 20000000) (hsv : ∀ v ∈ sz, 0 ≤ v ∧ v < 20000000) (hl : ps.length = 256) (hps : ∀ v ∈ cols ps, 0 ≤ v ∧ v < 65536) :
    ∀ e ∈ entsOf wide high x3 x4 x5 x6 b7 tw th rows ch pl sz ps, EntOk e := by
  intro e he
  have one : ∀ (t k v : Int), 256 ≤ t → t ≤ 338 → (k = 3 ∨ k = 4) → 0 ≤ v → v < 65536 → EntOk ⟨t, k, [v]⟩ := fun t k v h1 h2 h3 h4 h5 =>
    ⟨h1, h2, h3, by simp, by simp, fun u hu => by
      have : u = v := by simpa using hu
      rw [this]
      exact ⟨h4, fun _ => h5, by omega⟩⟩
  have row : ∀ (t : Int) (l : List Int), 256 ≤ t → t ≤ 338 → 1 ≤ l.length → l.length ≤ 40 → (∀ v ∈ l, 0 ≤ v ∧ v < 20000000) → EntOk ⟨t, 4, l⟩ := fun t l h1 h2 h3 h4 h5 =>
    ⟨h1, h2, .inr rfl, h3, by show l.length ≤ 768; omega, fun u hu => by have := h5 u hu; refine ⟨this.1, fun h => by simp at h, by omega⟩⟩
  simp only [entsOf, List.mem_append] at he
  rcases he with ((((((he | he) | he) | he) | he) | he) | he) | he
  · simp only [ents0, List.mem_cons, List.not_mem_nil, or_false] at he
    rcases he with rfl | rfl | rfl | rfl | rfl
    · exact one _ _ _ (by omega) (by omega) (.inl rfl) (by omega) (by omega)
    · exact one _ _ _ (by omega) (by omega) (.inr rfl) (by omega) (by omega)
    · refine ⟨by show (256 : Int) ≤ 258; omega, by show (258 : Int) ≤ 338; omega, .inl rfl, by simp; omega, by simp; omega, fun u hu => ?_⟩
      obtain ⟨_, rfl⟩ := List.mem_replicate.1 hu
      omega
    · exact one _ _ _ (by omega) (by omega) (.inl rfl) (by omega) (by omega)
    · exact one _ _ _ (by omega) (by omega) (.inl rfl) (by omega) (by omega)
  · unfold entsA at he
    split at he
    · obtain rfl := List.mem_singleton.1 he
      exact row _ _ (by omega) (by omega) hp.1 hp.2 hpv
    · cases he
  · obtain rfl := List.mem_singleton.1 he
    exact one _ _ _ (by omega) (by omega) (.inl rfl) (by omega) (by omega)
  · unfold entsB at he
    split at he
    · simp only [List.mem_cons, List.not_mem_nil, or_false] at he
      rcases he with rfl | rfl
      · exact one _ _ _ (by omega) (by omega) (.inr rfl) (by omega) (by omega)
      · exact row _ _ (by omega) (by omega) (by omega) (by omega) hsv
    · cases he
  · unfold entsC at he
    split at he
    · obtain rfl := List.mem_singleton.1 he
      exact one _ _ _ (by omega) (by omega) (.inl rfl) (by omega) (by omega)
    · cases he
  · unfold entsD at he
    split at he
    · obtain rfl := List.mem_singleton.1 he
      have := cols_length ps
      refine ⟨by show (256 : Int) ≤ 320; omega, by show (320 : Int) ≤ 338; omega, .inl rfl, by show 1 ≤ (cols ps).length; omega, by show (cols ps).length ≤ 768; omega, fun u hu => ?_⟩
      have := hps u hu
      omega
    · cases he
  · unfold entsE at he
    split at he
    · simp only [List.mem_cons, List.not_mem_nil, or_false] at he
      rcases he with rfl | rfl | rfl | rfl
      · exact one _ _ _ (by omega) (by omega) (.inl rfl) (by omega) (by omega)
      · exact one _ _ _ (by omega) (by omega) (.inl rfl) (by omega) (by omega)
      · exact row _ _ (by omega) (by omega) hp.1 hp.2 hpv
      · exact row _ _ (by omega) (by omega) (by omega) (by omega) hsv
    · cases he
  · unfold entsF at he
    split at he
    · rename_i h
      obtain rfl := List.mem_singleton.1 he
      exact one _ _ _ (by omega) (by omega) (.inl rfl) (by omega) (by omega)
    · cases he

/-- The tags ascend. -/
theorem ents_asc (wide high : Nat) (x3 x4 x5 x6 : Int) (b7 : Bool) (tw th rows ch : Nat) (pl sz : List Int) (ps : List S57) :
    (entsOf wide high x3 x4 x5 x6 b7 tw th rows ch pl sz ps).Pairwise (fun a b => a.tag < b.tag) := by
  unfold entsOf ents0 entsA entsB entsC entsD entsE entsF
  split <;> split <;> split <;> split <;> first | (exfalso; omega) | (split <;> simp)

theorem tail_len (big : Bool) (more : Nat) (l : List Ent) (h : ∀ e ∈ l, e.nums.length ≤ 768) : (dirF big more l).2.length ≤ 4000 * l.length := by
  revert h
  refine snoc_ind (P := fun l => (∀ e ∈ l, e.nums.length ≤ 768) → (dirF big more l).2.length ≤ 4000 * l.length) ?_ ?_ l
  · simp [dirF]
  · intro l e ih h
    have h1 := ih (fun e' he' => h e' (List.mem_append_left _ he'))
    have h2 := h e (by simp)
    have h3 := bytes_length big e
    have h4 : (e.bytes big).length ≤ 3072 := by
      rw [h3]
      rcases wd_pos e with h | h <;> rw [h] <;> omega
    rw [dirF_snoc, List.length_append]
    show (e.behind big (dirF big more l).2).length ≤ _
    unfold Ent.behind evenl
    split
    · simp; omega
    · split
      · simp; omega
      · simp; omega
end Go.Proofs.YtnodmobblamlgaaDoor
