/- A file of TIFF as bytes: its head, what stands ahead of its directory, the directory's rows, what stands behind it; and what is read at its places. Plain lists. -/
import Derived.Test.YtnodmobblamlgaaDoorENum
namespace Go.Proofs.YtnodmobblamlgaaDoor
open Go.RowKit Go.Proofs.YtnodmobblamlgaaDoorW.PrintWords
set_option linter.unusedVariables false
set_option linter.unusedSimpArgs false

/-- A row of a directory. -/
structure Ent where
  tag : Int
  kind : Int
  nums : List Int
/-- How many bytes a number of it takes. -/
def Ent.wd (e : Ent) : Nat := if e.kind = 4 then 4 else 2
/-- Its numbers' bytes. -/
def Ent.bytes (big : Bool) (e : Ent) : List Int := (e.nums.map (nb big e.wd)).flatten
def evenl (l : List Int) : List Int := if l.length % 2 = 1 then l ++ [0] else l
/-- A row's last four bytes. -/
def Ent.last (big : Bool) (at_ : Nat) (e : Ent) : List Int := if (e.bytes big).length ≤ 4 then e.bytes big ++ List.replicate (4 - (e.bytes big).length) 0 else nb big 4 at_
def Ent.row (big : Bool) (at_ : Nat) (e : Ent) : List Int := nb big 2 e.tag ++ nb big 2 e.kind ++ nb big 4 e.nums.length ++ e.last big at_
def Ent.behind (big : Bool) (tail : List Int) (e : Ent) : List Int := if (e.bytes big).length ≤ 4 then tail else evenl (tail ++ e.bytes big)
/-- The rows, and what stands behind them. -/
def dirF (big : Bool) (more : Nat) (es : List Ent) : List Int × List Int := es.foldl (fun s e => (s.1 ++ e.row big (more + s.2.length), e.behind big s.2)) ([], [])
def headF (big : Bool) (dir : Nat) : List Int := (if big then [77, 77] else [73, 73]) ++ nb big 2 42 ++ nb big 4 dir
def moreF (rest : List Int) (es : List Ent) : Nat := 8 + rest.length + 2 + 12 * es.length + 4
def fileF (big : Bool) (rest : List Int) (es : List Ent) : List Int :=
  headF big (8 + rest.length) ++ rest ++ nb big 2 es.length ++ (dirF big (moreF rest es) es).1 ++ [0, 0, 0, 0] ++ (dirF big (moreF rest es) es).2

/-- The n bytes at a place are those of a number. -/
def AtN (big : Bool) (n : Nat) (b : List Int) (p : Nat) (v : Int) : Prop := p + n ≤ b.length ∧ (b.drop p).take n = nb big n v

theorem AtN.of_split {big : Bool} {n p : Nat} {b l r : List Int} {v : Int} (hb : b = l ++ (nb big n v ++ r)) (hp : p = l.length) : AtN big n b p v := by
  subst hp
  subst hb
  refine ⟨by simp [nb_length], ?_⟩
  rw [List.drop_left, List.take_left' (nb_length _ _ _)]

theorem wd_pos (e : Ent) : e.wd = 2 ∨ e.wd = 4 := by unfold Ent.wd; split <;> simp
theorem bytes_length (big : Bool) (e : Ent) : (e.bytes big).length = e.wd * e.nums.length := by
  unfold Ent.bytes
  induction e.nums with
  | nil => simp
  | cons a l ih => rw [List.map_cons, List.flatten_cons, List.length_append, nb_length, ih, List.length_cons, Nat.mul_succ]; omega
theorem last_length (big : Bool) (at_ : Nat) (e : Ent) : (e.last big at_).length = 4 := by
  unfold Ent.last
  split
  · rw [List.length_append, List.length_replicate]; omega
  · exact nb_length _ _ _
theorem row_length (big : Bool) (at_ : Nat) (e : Ent) : (e.row big at_).length = 12 := by simp [Ent.row, nb_length, last_length]
theorem behind_prefix (big : Bool) (tail : List Int) (e : Ent) : ∃ r, e.behind big tail = tail ++ r ∧ (¬ (e.bytes big).length ≤ 4 → ∃ r', r = e.bytes big ++ r') := by
  unfold Ent.behind evenl
  split
  · exact ⟨[], by simp, fun h => absurd ‹_› h⟩
  · split
    · exact ⟨e.bytes big ++ [0], by simp, fun _ => ⟨_, rfl⟩⟩
    · exact ⟨e.bytes big, rfl, fun _ => ⟨[], by simp⟩⟩

theorem snoc_ind {α : Type} {P : List α → Prop} (h0 : P []) (h1 : ∀ l a, P l → P (l ++ [a])) (l : List α) : P l := by
  have h : ∀ m : List α, P m.reverse := by
    intro m
    induction m with
    | nil => exact h0
    | cons a m ih => rw [List.reverse_cons]; exact h1 _ a ih
  simpa using h l.reverse
theorem dirF_snoc (big : Bool) (more : Nat) (es : List Ent) (e : Ent) : dirF big more (es ++ [e]) = ((dirF big more es).1 ++ e.row big (more + (dirF big more es).2.length), e.behind big (dirF big more es).2) := by
  simp [dirF, List.foldl_append]
theorem dirF_append (big : Bool) (more : Nat) (l : List Ent) : ∀ r, ∃ a b, dirF big more (l ++ r) = ((dirF big more l).1 ++ a, (dirF big more l).2 ++ b) ∧ a.length = 12 * r.length := by
  refine snoc_ind ?_ ?_
  · exact ⟨[], [], by simp, rfl⟩
  · intro r e ih
    obtain ⟨a, b, h, hl⟩ := ih
    obtain ⟨c, hc, _⟩ := behind_prefix big ((dirF big more l).2 ++ b) e
    refine ⟨a ++ e.row big (more + ((dirF big more l).2 ++ b).length), b ++ c, ?_, ?_⟩
    · rw [← List.append_assoc, dirF_snoc, h, hc, List.append_assoc, List.append_assoc]
    · rw [List.length_append, row_length, hl, List.length_append]; simp; omega
theorem dirF_length (big : Bool) (more : Nat) (es : List Ent) : (dirF big more es).1.length = 12 * es.length := by
  obtain ⟨a, b, h, hl⟩ := dirF_append big more [] es
  rw [List.nil_append] at h
  rw [h]
  simp [dirF, hl]
/-- The rows up to one, this one, the rest. -/
theorem dirF_split (big : Bool) (more : Nat) (l : List Ent) (e : Ent) (r : List Ent) : ∃ a b, (dirF big more (l ++ e :: r)).1 = (dirF big more l).1 ++ (e.row big (more + (dirF big more l).2.length) ++ a) ∧
    (¬ (e.bytes big).length ≤ 4 → (dirF big more (l ++ e :: r)).2 = (dirF big more l).2 ++ (e.bytes big ++ b)) := by
  obtain ⟨a, b, h, _⟩ := dirF_append big more (l ++ [e]) r
  obtain ⟨c, hc, hc'⟩ := behind_prefix big (dirF big more l).2 e
  rw [dirF_snoc, hc] at h
  rw [List.append_assoc, List.singleton_append] at h
  by_cases h4 : (e.bytes big).length ≤ 4
  · exact ⟨a, b, by rw [h]; simp, fun h5 => absurd h4 h5⟩
  · obtain ⟨c', rfl⟩ := hc' h4
    exact ⟨a, c' ++ b, by rw [h]; simp, fun _ => by rw [h]; simp⟩

theorem headF_length (big : Bool) (dir : Nat) : (headF big dir).length = 8 := by cases big <;> simp [headF, nb_length]

/-- One of a row's numbers, where its bytes stand. -/
theorem bytes_at (big : Bool) (e : Ent) {b l r : List Int} (hb : b = l ++ (e.bytes big ++ r)) : ∀ (j : Nat) (v : Int), e.nums[j]? = some v → AtN big e.wd b (l.length + e.wd * j) v := by
  intro j v hv
  obtain ⟨hj, hv'⟩ := List.getElem?_eq_some_iff.1 hv
  have hs : e.nums = e.nums.take j ++ v :: e.nums.drop (j + 1) := by
    have := List.take_append_drop j e.nums
    rw [List.drop_eq_getElem_cons hj, hv'] at this
    exact this.symm
  have h2 : e.bytes big = ((e.nums.take j).map (nb big e.wd)).flatten ++ (nb big e.wd v ++ ((e.nums.drop (j + 1)).map (nb big e.wd)).flatten) := by
    unfold Ent.bytes
    conv => lhs; rw [hs]
    simp
  have h3 : (((e.nums.take j).map (nb big e.wd)).flatten).length = e.wd * j := by
    have := bytes_length big { e with nums := e.nums.take j }
    rw [show ({ e with nums := e.nums.take j } : Ent).wd = e.wd from rfl] at this
    rw [Ent.bytes, List.length_take, Nat.min_eq_left (Nat.le_of_lt hj)] at this
    exact this
  refine AtN.of_split (l := l ++ ((e.nums.take j).map (nb big e.wd)).flatten) (r := ((e.nums.drop (j + 1)).map (nb big e.wd)).flatten ++ r) ?_ ?_
  · rw [hb, h2]; simp
  · rw [List.length_append, h3]

/-- What the file tells at its places. -/
structure Dir (big : Bool) (b : List Int) (dir : Nat) (es : List Ent) : Prop where
  head : b.take 4 = if big then [77, 77, 0, 42] else [73, 73, 42, 0]
  at4 : AtN big 4 b 4 dir
  dir8 : 8 ≤ dir
  cnt : AtN big 2 b dir es.length
  fit : dir + 2 + 12 * es.length ≤ b.length
  row : ∀ k e, es[k]? = some e → AtN big 2 b (dir + 2 + 12 * k) e.tag ∧ AtN big 2 b (dir + 2 + 12 * k + 2) e.kind ∧ AtN big 4 b (dir + 2 + 12 * k + 4) e.nums.length ∧
    ∃ f : Nat, 8 ≤ f ∧ (e.wd * e.nums.length ≤ 4 → f = dir + 2 + 12 * k + 8) ∧ (4 < e.wd * e.nums.length → AtN big 4 b (dir + 2 + 12 * k + 8) f) ∧ f + e.wd * e.nums.length ≤ b.length ∧ ∀ j v, e.nums[j]? = some v → AtN big e.wd b (f + e.wd * j) v

theorem dir_of_file (big : Bool) (rest : List Int) (es : List Ent) : Dir big (fileF big rest es) (8 + rest.length) es := by
  obtain ⟨pre, hpre⟩ : ∃ pre, pre = headF big (8 + rest.length) ++ rest := ⟨_, rfl⟩
  have hpl : pre.length = 8 + rest.length := by rw [hpre, List.length_append, headF_length]
  have hf : fileF big rest es = pre ++ (nb big 2 es.length ++ ((dirF big (moreF rest es) es).1 ++ ([0, 0, 0, 0] ++ (dirF big (moreF rest es) es).2))) := by
    rw [hpre]; simp [fileF]
  have hd := dirF_length big (moreF rest es) es
  refine ⟨?_, ?_, by omega, ?_, ?_, ?_⟩
  · cases big <;> simp [fileF, headF, nb, List.range_succ]
  · refine AtN.of_split (l := (if big then [77, 77] else [73, 73]) ++ nb big 2 42) (r := rest ++ (nb big 2 es.length ++ ((dirF big (moreF rest es) es).1 ++ ([0, 0, 0, 0] ++ (dirF big (moreF rest es) es).2)))) (by rw [hf, hpre]; simp [headF]) (by cases big <;> simp [nb_length])
  · exact AtN.of_split hf hpl.symm
  · rw [hf]; simp [hpl, nb_length, hd]; omega
  · intro k e he
    obtain ⟨hk, hk'⟩ := List.getElem?_eq_some_iff.1 he
    have hs : es = es.take k ++ e :: es.drop (k + 1) := by
      have := List.take_append_drop k es
      rw [List.drop_eq_getElem_cons hk, hk'] at this
      exact this.symm
    obtain ⟨a, t, h1, h2⟩ := dirF_split big (moreF rest es) (es.take k) e (es.drop (k + 1))
    rw [← hs] at h1 h2
    obtain ⟨R, hR⟩ : ∃ R, R = (dirF big (moreF rest es) (es.take k)).1 := ⟨_, rfl⟩
    obtain ⟨T, hT⟩ : ∃ T, T = (dirF big (moreF rest es) (es.take k)).2 := ⟨_, rfl⟩
    have hRl : R.length = 12 * k := by rw [hR, dirF_length, List.length_take]; omega
    rw [← hR, ← hT] at h1
    rw [← hT] at h2
    obtain ⟨pk, hpk⟩ : ∃ pk, pk = pre ++ (nb big 2 es.length ++ R) := ⟨_, rfl⟩
    have hpkl : pk.length = 8 + rest.length + 2 + 12 * k := by rw [hpk]; simp [hpl, nb_length, hRl]; omega
    have hf2 : fileF big rest es = pk ++ (e.row big (moreF rest es + T.length) ++ (a ++ ([0, 0, 0, 0] ++ (dirF big (moreF rest es) es).2))) := by
      rw [hf, hpk, h1]; simp
    refine ⟨?_, ?_, ?_, ?_⟩
    · exact AtN.of_split (l := pk) (r := nb big 2 e.kind ++ (nb big 4 e.nums.length ++ (e.last big (moreF rest es + T.length) ++ (a ++ ([0, 0, 0, 0] ++ (dirF big (moreF rest es) es).2))))) (by rw [hf2]; simp [Ent.row]) (by omega)
    · exact AtN.of_split (l := pk ++ nb big 2 e.tag) (r := nb big 4 e.nums.length ++ (e.last big (moreF rest es + T.length) ++ (a ++ ([0, 0, 0, 0] ++ (dirF big (moreF rest es) es).2)))) (by rw [hf2]; simp [Ent.row]) (by simp [nb_length]; omega)
    · exact AtN.of_split (l := pk ++ nb big 2 e.tag ++ nb big 2 e.kind) (r := e.last big (moreF rest es + T.length) ++ (a ++ ([0, 0, 0, 0] ++ (dirF big (moreF rest es) es).2))) (by rw [hf2]; simp [Ent.row]) (by simp [nb_length]; omega)
    · have hbl := bytes_length big e
      by_cases h4 : (e.bytes big).length ≤ 4
      · have hb : fileF big rest es = (pk ++ nb big 2 e.tag ++ nb big 2 e.kind ++ nb big 4 e.nums.length) ++ (e.bytes big ++ (List.replicate (4 - (e.bytes big).length) 0 ++ (a ++ ([0, 0, 0, 0] ++ (dirF big (moreF rest es) es).2)))) := by
          rw [hf2]; simp [Ent.row, Ent.last, h4]
        have hl : (pk ++ nb big 2 e.tag ++ nb big 2 e.kind ++ nb big 4 e.nums.length).length = 8 + rest.length + 2 + 12 * k + 8 := by simp [nb_length]; omega
        refine ⟨8 + rest.length + 2 + 12 * k + 8, by omega, fun _ => rfl, fun h => by omega, ?_, fun j v hv => ?_⟩
        · rw [hb, List.length_append, hl, List.length_append]; omega
        · have := bytes_at big e hb j v hv
          rwa [hl] at this
      · have h2' := h2 h4
        have hb : fileF big rest es = (pre ++ (nb big 2 es.length ++ ((dirF big (moreF rest es) es).1 ++ ([0, 0, 0, 0] ++ T)))) ++ (e.bytes big ++ t) := by
          rw [hf, h2']; simp
        have hl : (pre ++ (nb big 2 es.length ++ ((dirF big (moreF rest es) es).1 ++ ([0, 0, 0, 0] ++ T)))).length = moreF rest es + T.length := by
          have e1 : moreF rest es = 8 + rest.length + 2 + 12 * es.length + 4 := rfl
          generalize (dirF big (moreF rest es) es).1 = X at hd ⊢
          simp [hpl, nb_length, hd]; omega
        refine ⟨moreF rest es + T.length, by unfold moreF; omega, fun h => by omega, fun _ => ?_, ?_, fun j v hv => ?_⟩
        · exact AtN.of_split (l := pk ++ nb big 2 e.tag ++ nb big 2 e.kind ++ nb big 4 e.nums.length) (r := a ++ ([0, 0, 0, 0] ++ (dirF big (moreF rest es) es).2)) (by rw [hf2]; simp [Ent.row, Ent.last, h4]) (by simp [nb_length]; omega)
        · rw [hb, List.length_append, hl, List.length_append]; omega
        · have := bytes_at big e hb j v hv
          rwa [hl] at this
end Go.Proofs.YtnodmobblamlgaaDoor
