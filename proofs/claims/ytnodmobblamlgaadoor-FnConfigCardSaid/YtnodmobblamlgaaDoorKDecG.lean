/- What tiff's decoder holds while it reads the rows of a directory; a row read. -/
import Derived.Test.YtnodmobblamlgaaDoorKDecF
import Derived.Test.YtnodmobblamlgaaDoorKRowsA
namespace Go.Proofs.YtnodmobblamlgaaDoor
open Go.RowKit Go.Proofs.YtnodmobblamlgaaDoorW.PrintWords Go.Proofs.YtnodmobblamlgaaDoorW.PrintLast Go.Proofs.YtnodmobblamlgaaDoorW.PrintMore
set_option linter.unusedVariables false
set_option linter.unusedSimpArgs false

/-- The decoder's cells. -/
def decB (g : Nat) (order : Value) (c0 : Int) (cp : Value) (cw ch mode bpp : Int) (fm : Nat) (pal : Value) : Obj :=
  .cells #[.iface 71 (.pointer (some ⟨g, 0, none⟩)), order, .int .i64 c0, cp, .int .i64 cw, .int .i64 ch, .int .i64 mode, .int .u64 bpp, .map (some fm), pal, .slice none 0 0, .int .i64 0, .int .u32 0, .int .u64 0] 89 (0, 0)
/-- The tags whose numbers are kept. -/
def stored (t : Int) : Prop := t = 256 ∨ t = 257 ∨ t = 258 ∨ t = 259 ∨ t = 262 ∨ t = 273 ∨ t = 278 ∨ t = 279 ∨ t = 317 ∨ t = 322 ∨ t = 323 ∨ t = 324 ∨ t = 325 ∨ t = 338
/-- A row as the decoder takes it. -/
structure EntD (e : Ent) : Prop where
  ok : EntOk e
  cls : stored e.tag ∨ e.tag = 277 ∨ (e.tag = 320 ∧ e.nums.length = 768 ∧ ∀ v ∈ e.nums, 0 ≤ v ∧ v < 65536)
/-- The numbers kept so far. -/
def Feat (w : World) (fm n : Nat) (es : List Ent) : Prop :=
  ∃ f, IMap w fm n f ∧ (∀ t, f t ≠ none → ∃ e ∈ es, stored e.tag ∧ e.tag = t) ∧ ∀ e ∈ es, stored e.tag → ∃ gb, f e.tag = some (.slice (some ⟨gb, 0, none⟩) e.nums.length e.nums.length) ∧ Kd.C (Kd.int .u64) w (some ⟨gb, 0, none⟩) e.nums.length e.nums ∧ gb ≠ fm ∧ gb ≠ fm + 1
def PalS (w : World) (fm : Nat) (pal : Value) (es : List Ent) : Prop := ∀ e ∈ es, e.tag = 320 → ∃ pb, pal = .slice (some ⟨pb, 0, none⟩) 256 256 ∧ PalB w pb e.nums ∧ pb ≠ fm ∧ pb ≠ fm + 1
/-- The decoder after k rows: its cells stand behind its map. -/
structure DecS (W0 w : World) (g : Nat) (T : TypeId) (fm : Nat) (es : List Ent) (k : Nat) : Prop where
  dec : ∃ pal, w.heap[fm + 1]? = some (decB g (.iface T (.agg #[])) 0 (.slice none 0 0) 0 0 0 0 fm pal) ∧ PalS w fm pal (es.take k)
  feat : Feat w fm k (es.take k)
  below : Below W0.heap.size W0 w
  fm0 : W0.heap.size ≤ fm

theorem PalB.turn {w w1 : World} {S : Nat → Prop} {pb : Nat} {ys : List Int} (h : PalB w pb ys) (ht : Turn S w w1) (hS : ¬ S pb) : PalB w1 pb ys := by
  obtain ⟨cur, a, b, c⟩ := h
  exact ⟨cur, ht.blk a hS, b, c⟩
theorem PalS.turn {w w1 : World} {S : Nat → Prop} {fm : Nat} {pal : Value} {es : List Ent} (h : PalS w fm pal es) (ht : Turn S w w1) (hS : ∀ k, S k → k = fm ∨ k = fm + 1) : PalS w1 fm pal es := fun e he h3 => by
  obtain ⟨pb, a, b, c, d⟩ := h e he h3
  exact ⟨pb, a, b.turn ht (fun hs => (hS pb hs).elim c d), c, d⟩
theorem tag_take {es : List Ent} {k : Nat} {e : Ent} (h : es[k]? = some e) : es.take (k + 1) = es.take k ++ [e] := by
  obtain ⟨hk, he⟩ := List.getElem?_eq_some_iff.1 h
  rw [List.take_succ_eq_append_getElem hk, he]
theorem not_stored {t : Int} (h : t = 277 ∨ t = 320) : ¬ stored t := by unfold stored; omega
theorem DecS.skip {W0 w w1 : World} {g fm : Nat} {T : TypeId} {es : List Ent} {k : Nat} {e : Ent} (h : DecS W0 w g T fm es k) (hee : es[k]? = some e) (ht : e.tag = 277) (hb : Below w.heap.size w w1) : DecS W0 w1 g T fm es (k + 1) := by
  obtain ⟨pal, hd, hp⟩ := h.dec
  obtain ⟨f, hI, h1, h2⟩ := h.feat
  have hlt := blk_lt hd
  have hT : Turn (fun _ => False) w w1 := Turn.fresh hb
  refine ⟨⟨pal, blk_below hb hd, fun e' he' h3 => ?_⟩, ⟨f, (hI.below hb).mono (Nat.le_succ k), fun t htn => ?_, fun e' he' h3 => ?_⟩, h.below.trans (hb.mono h.below.size), h.fm0⟩
  · rw [tag_take hee] at he'
    rcases List.mem_append.1 he' with he' | he'
    · exact (hp.turn hT (fun _ hf => hf.elim)) e' he' h3
    · obtain rfl := List.mem_singleton.1 he'
      omega
  · obtain ⟨e', he', r⟩ := h1 t htn
    exact ⟨e', by rw [tag_take hee]; exact List.mem_append_left _ he', r⟩
  · rw [tag_take hee] at he'
    rcases List.mem_append.1 he' with he' | he'
    · obtain ⟨gb, a, b, c⟩ := h2 e' he' h3
      exact ⟨gb, a, Kd.C_below b hb, c⟩
    · obtain rfl := List.mem_singleton.1 he'
      exact absurd h3 (not_stored (.inl ht))
theorem DecS.keep {W0 w w1 : World} {g fm gb : Nat} {T : TypeId} {es : List Ent} {k : Nat} {e : Ent} {f : Int → Option Value} (hasc : es.Pairwise (fun a b => a.tag < b.tag)) (h : DecS W0 w g T fm es k) (hI : IMap w fm k f) (h1 : ∀ t, f t ≠ none → ∃ e ∈ es.take k, stored e.tag ∧ e.tag = t)
    (h2 : ∀ e ∈ es.take k, stored e.tag → ∃ gb, f e.tag = some (.slice (some ⟨gb, 0, none⟩) e.nums.length e.nums.length) ∧ Kd.C (Kd.int .u64) w (some ⟨gb, 0, none⟩) e.nums.length e.nums ∧ gb ≠ fm ∧ gb ≠ fm + 1) (hn : ∀ e ∈ es, 1 ≤ e.nums.length)
    (hee : es[k]? = some e) (ht : stored e.tag) (hT : Turn (fun k => k = fm) w w1) (hgb : w.heap.size ≤ gb) (hC : Kd.C (Kd.int .u64) w1 (some ⟨gb, 0, none⟩) e.nums.length e.nums)
    (hI1 : IMap w1 fm (k + 1) (fun j => if j = e.tag then some (.slice (some ⟨gb, 0, none⟩) e.nums.length e.nums.length) else f j)) : DecS W0 w1 g T fm es (k + 1) := by
  obtain ⟨pal, hd, hp⟩ := h.dec
  have hlt := blk_lt hd
  refine ⟨⟨pal, hT.blk hd (by omega), fun e' he' h3 => ?_⟩, ⟨_, hI1, fun t htn => ?_, fun e' he' h3 => ?_⟩, hT.below h.below h.below.size (fun k hk => by rw [hk]; exact h.fm0), h.fm0⟩
  · rw [tag_take hee] at he'
    rcases List.mem_append.1 he' with he' | he'
    · exact (hp.turn hT (fun _ hf => .inl hf)) e' he' h3
    · obtain rfl := List.mem_singleton.1 he'
      exact absurd ht (not_stored (.inr h3))
  · by_cases e1 : t = e.tag
    · exact ⟨e, by rw [tag_take hee]; simp, ht, e1.symm⟩
    · simp only [e1, if_false] at htn
      obtain ⟨e', he', r⟩ := h1 t htn
      exact ⟨e', by rw [tag_take hee]; exact List.mem_append_left _ he', r⟩
  · rw [tag_take hee] at he'
    rcases List.mem_append.1 he' with he' | he'
    · obtain ⟨gb', a, b, c, d⟩ := h2 e' he' h3
      have hne := tags_ne es hasc k e hee e' he'
      have hl := hn e' (List.mem_of_mem_take he')
      refine ⟨gb', by rw [if_neg (by omega)]; exact a, C_at_blk b (hT.far gb' (C_at_lt b hl) c), c, d⟩
    · obtain rfl := List.mem_singleton.1 he'
      exact ⟨gb, by simp, hC, by omega, by omega⟩
theorem DecS.pal {W0 w w1 : World} {g fm pb : Nat} {T : TypeId} {es : List Ent} {k : Nat} {e : Ent} (hasc : es.Pairwise (fun a b => a.tag < b.tag)) (hn : ∀ e ∈ es, 1 ≤ e.nums.length) (h : DecS W0 w g T fm es k) (hee : es[k]? = some e) (ht : e.tag = 320) (hT : Turn (fun k => k = fm + 1) w w1) (hpb : w.heap.size ≤ pb)
    (hd : w1.heap[fm + 1]? = some (decB g (.iface T (.agg #[])) 0 (.slice none 0 0) 0 0 0 0 fm (.slice (some ⟨pb, 0, none⟩) 256 256))) (hP : PalB w1 pb e.nums) : DecS W0 w1 g T fm es (k + 1) := by
  obtain ⟨pal, hd0, hp⟩ := h.dec
  obtain ⟨f, hI, h1, h2⟩ := h.feat
  have hlt := blk_lt hd0
  refine ⟨⟨_, hd, fun e' he' h3 => ?_⟩, ⟨f, (hT.imap hI (by omega)).mono (Nat.le_succ k), fun t htn => ?_, fun e' he' h3 => ?_⟩, hT.below h.below h.below.size (fun k hk => by have := h.fm0; omega), h.fm0⟩
  · rw [tag_take hee] at he'
    rcases List.mem_append.1 he' with he' | he'
    · have := tags_ne es hasc k e hee e' he'
      omega
    · obtain rfl := List.mem_singleton.1 he'
      exact ⟨pb, rfl, hP, by omega, by omega⟩
  · obtain ⟨e', he', r⟩ := h1 t htn
    exact ⟨e', by rw [tag_take hee]; exact List.mem_append_left _ he', r⟩
  · rw [tag_take hee] at he'
    rcases List.mem_append.1 he' with he' | he'
    · obtain ⟨gb, a, b, c, d⟩ := h2 e' he' h3
      exact ⟨gb, a, C_at_blk b (hT.far gb (C_at_lt b (hn e' (List.mem_of_mem_take he'))) d), c, d⟩
    · obtain rfl := List.mem_singleton.1 he'
      exact absurd h3 (not_stored (.inr ht))
end Go.Proofs.YtnodmobblamlgaaDoor
