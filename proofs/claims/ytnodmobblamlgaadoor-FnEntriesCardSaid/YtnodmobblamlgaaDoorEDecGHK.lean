/- What tiff's decoder holds while it reads the rows of a directory; a row read. -/
import Derived.Test.YtnodmobblamlgaaDoorEDecF
import Derived.Test.YtnodmobblamlgaaDoorERowsA
import Derived.Test.YtnodmobblamlgaaDoorEEnts
namespace Go.Proofs.YtnodmobblamlgaaDoor
open Go.RowKit Go.Proofs.YtnodmobblamlgaaDoorW.PrintWords Go.Proofs.YtnodmobblamlgaaDoorW.PrintLast Go.Proofs.YtnodmobblamlgaaDoorW.PrintMore
set_option linter.unusedVariables false
set_option linter.unusedSimpArgs false

/-- The decoder's cells. -/
def decB (g : Nat) (order : Value) (c0 : Int) (cp : Value) (cw ch mode bpp : Int) (fm : Nat) (pal : Value) : Obj :=
  .cells #[.iface 71 (.pointer (some ⟨g, 0, none⟩)), order, .int .i64 c0, cp, .int .i64 cw, .int .i64 ch, .int .i64 mode, .int .u64 bpp, .map (some fm), pal, .slice none 0 0, .int .i64 0, .int .u32 0, .int .u64 0] 89 (0, 0)
/-- The tags whose numbers are kept. -/
def stored (t : Int) : Prop := t = 256 ∨ t = 257 ∨ t = 258 ∨ t = 259 ∨ t = 262 ∨ t = 273 ∨ t = 278 ∨ t = 279 ∨ t = 317 ∨ t = 322 ∨ t = 323 ∨ t = 324 ∨ t = 325 ∨ t = 338
/-- A row as the decoder takes it. -/
structure EntD (e : Ent) : Prop where
  ok : EntOk e
  cls : stored e.tag ∨ e.tag = 277 ∨ (e.tag = 320 ∧ e.nums.length = 768 ∧ ∀ v ∈ e.nums, 0 ≤ v ∧ v < 65536)
/-- The numbers kept so far. -/
def Feat (w : World) (fm n : Nat) (es : List Ent) : Prop :=
  ∃ f, IMap w fm n f ∧ (∀ t, f t ≠ none → ∃ e ∈ es, stored e.tag ∧ e.tag = t) ∧ ∀ e ∈ es, stored e.tag → ∃ gb, f e.tag = some (.slice (some ⟨gb, 0, none⟩) e.nums.length e.nums.length) ∧ Kd.C (Kd.int .u64) w (some ⟨gb, 0, none⟩) e.nums.length e.nums ∧ gb ≠ fm ∧ gb ≠ fm + 1
def PalS (w : World) (fm : Nat) (pal : Value) (es : List Ent) : Prop := ∀ e ∈ es, e.tag = 320 → ∃ pb, pal = .slice (some ⟨pb, 0, none⟩) 256 256 ∧ PalB w pb e.nums ∧ pb ≠ fm ∧ pb ≠ fm + 1
/-- The decoder after k rows: its cells stand behind its map. -/
structure DecS (W0 w : World) (g : Nat) (T : TypeId) (fm : Nat) (es : List Ent) (k : Nat) : Prop where
  dec : ∃ pal, w.heap[fm + 1]? = some (decB g (.iface T (.agg #[])) 0 (.slice none 0 0) 0 0 0 0 fm pal) ∧ PalS w fm pal (es.take k)
  feat : Feat w fm k (es.take k)
  below : Below W0.heap.size W0 w
  fm0 : W0.heap.size ≤ fm

theorem PalB.turn {w w1 : World} {S : Nat → Prop} {pb : Nat} {ys : List Int} (h : PalB w pb ys) (ht : Turn S w w1) (hS : ¬ S pb) : PalB w1 pb ys := by
  obtain ⟨cur, a, b, c⟩ := h
  exact ⟨cur, ht.blk a hS, b, c⟩
theorem PalS.turn {w w1 : World} {S : Nat → Prop} {fm : Nat} {pal : Value} {es : List Ent} (h : PalS w fm pal es) (ht : Turn S w w1) (hS : ∀ k, S k → k = fm ∨ k = fm + 1) : PalS w1 fm pal es := fun e he h3 => by
  obtain ⟨pb, a, b, c, d⟩ := h e he h3
  exact ⟨pb, a, b.turn ht (fun hs => (hS pb hs).elim c d), c, d⟩
theorem tag_take {es : List Ent} {k : Nat} {e : Ent} (h : es[k]? = some e) : es.take (k + 1) = es.take k ++ [e] := by
  obtain ⟨hk, he⟩ := List.getElem?_eq_some_iff.1 h
  rw [List.take_succ_eq_append_getElem hk, he]
theorem not_stored {t : Int} (h : t = 277 ∨ t = 320) : ¬ stored t := by unfold stored; omega
theorem DecS.skip {W0 w w1 : World} {g fm : Nat} {T : TypeId} {es : List Ent} {k : Nat} {e : Ent} (h : DecS W0 w g T fm es k) (hee : es[k]? = some e) (ht : e.tag = 277) (hb : Below w.heap.size w w1) : DecS W0 w1 g T fm es (k + 1) := by
  obtain ⟨pal, hd, hp⟩ := h.dec
  obtain ⟨f, hI, h1, h2⟩ := h.feat
  have hlt := blk_lt hd
  have hT : Turn (fun _ => False) w w1 := Turn.fresh hb
  refine ⟨⟨pal, blk_below hb hd, fun e' he' h3 => ?_⟩, ⟨f, (hI.below hb).mono (Nat.le_succ k), fun t htn => ?_, fun e' he' h3 => ?_⟩, h.below.trans (hb.mono h.below.size), h.fm0⟩
  · rw [tag_take hee] at he'
    rcases List.mem_append.1 he' with he' | he'
    · exact (hp.turn hT (fun _ hf => hf.elim)) e' he' h3
    · obtain rfl := List.mem_singleton.1 he'
      omega
  · obtain ⟨e', he', r⟩ := h1 t htn
    exact ⟨e', by rw [tag_take hee]; exact List.mem_append_left _ he', r⟩
  · rw [tag_take hee] at he'
    rcases List.mem_append.1 he' with he' | he'
    · obtain ⟨gb, a, b, c⟩ := h2 e' he' h3
      exact ⟨gb, a, Kd.C_below b hb, c⟩
    · obtain rfl := List.mem_singleton.1 he'
      exact absurd h3 (not_stored (.inl ht))
theorem DecS.keep {W0 w w1 : World} {g fm gb : Nat} {T : TypeId} {es : List Ent} {k : Nat} {e : Ent} {f : Int → Option Value} (hasc : es.Pairwise (fun a b => a.tag < b.tag)) (h : DecS W0 w g T fm es k) (hI : IMap w fm k f) (h1 : ∀ t, f t ≠ none → ∃ e ∈ es.take k, stored e.tag ∧ e.tag = t)
    (h2 : ∀ e ∈ es.take k, stored e.tag → ∃ gb, f e.tag = some (.slice (some ⟨gb, 0, none⟩) e.nums.length e.nums.length) ∧ Kd.C (Kd.int .u64) w (some ⟨gb, 0, none⟩) e.nums.length e.nums ∧ gb ≠ fm ∧ gb ≠ fm + 1) (hn : ∀ e ∈ es, 1 ≤ e.nums.length)
    (hee : es[k]? = some e) (ht : stored e.tag) (hT : Turn (fun k => k = fm) w w1) (hgb : w.heap.size ≤ gb) (hC : Kd.C (Kd.int .u64) w1 (some ⟨gb, 0, none⟩) e.nums.length e.nums)
    (hI1 : IMap w1 fm (k + 1) (fun j => if j = e.tag then some (.slice (some ⟨gb, 0, none⟩) e.nums.length e.nums.length) else f j)) : DecS W0 w1 g T fm es (k + 1) := by
  obtain ⟨pal, hd, hp⟩ := h.dec
  have hlt := blk_lt hd
  refine ⟨⟨pal, hT.blk hd (by omega), fun e' he' h3 => ?_⟩, ⟨_, hI1, fun t htn => ?_, fun e' he' h3 => ?_⟩, hT.below h.below h.below.size (fun k hk => by rw [hk]; exact h.fm0), h.fm0⟩
  · rw [tag_take hee] at he'
    rcases List.mem_append.1 he' with he' | he'
    · exact (hp.turn hT (fun _ hf => .inl hf)) e' he' h3
    · obtain rfl := List.mem_singleton.1 he'
      exact absurd ht (not_stored (.inr h3))
  · by_cases e1 : t = e.tag
    · exact ⟨e, by rw [tag_take hee]; simp, ht, e1.symm⟩
    · simp only [e1, if_false] at htn
      obtain ⟨e', he', r⟩ := h1 t htn
      exact ⟨e', by rw [tag_take hee]; exact List.mem_append_left _ he', r⟩
  · rw [tag_take hee] at he'
    rcases List.mem_append.1 he' with he' | he'
    · obtain ⟨gb', a, b, c, d⟩ := h2 e' he' h3
      have hne := tags_ne es hasc k e hee e' he'
      have hl := hn e' (List.mem_of_mem_take he')
      refine ⟨gb', by rw [if_neg (by omega)]; exact a, C_at_blk b (hT.far gb' (C_at_lt b hl) c), c, d⟩
    · obtain rfl := List.mem_singleton.1 he'
      exact ⟨gb, by simp, hC, by omega, by omega⟩
theorem DecS.pal {W0 w w1 : World} {g fm pb : Nat} {T : TypeId} {es : List Ent} {k : Nat} {e : Ent} (hasc : es.Pairwise (fun a b => a.tag < b.tag)) (hn : ∀ e ∈ es, 1 ≤ e.nums.length) (h : DecS W0 w g T fm es k) (hee : es[k]? = some e) (ht : e.tag = 320) (hT : Turn (fun k => k = fm + 1) w w1) (hpb : w.heap.size ≤ pb)
    (hd : w1.heap[fm + 1]? = some (decB g (.iface T (.agg #[])) 0 (.slice none 0 0) 0 0 0 0 fm (.slice (some ⟨pb, 0, none⟩) 256 256))) (hP : PalB w1 pb e.nums) : DecS W0 w1 g T fm es (k + 1) := by
  obtain ⟨pal, hd0, hp⟩ := h.dec
  obtain ⟨f, hI, h1, h2⟩ := h.feat
  have hlt := blk_lt hd0
  refine ⟨⟨_, hd, fun e' he' h3 => ?_⟩, ⟨f, (hT.imap hI (by omega)).mono (Nat.le_succ k), fun t htn => ?_, fun e' he' h3 => ?_⟩, hT.below h.below h.below.size (fun k hk => by have := h.fm0; omega), h.fm0⟩
  · rw [tag_take hee] at he'
    rcases List.mem_append.1 he' with he' | he'
    · have := tags_ne es hasc k e hee e' he'
      omega
    · obtain rfl := List.mem_singleton.1 he'
      exact ⟨pb, rfl, hP, by omega, by omega⟩
  · obtain ⟨e', he', r⟩ := h1 t htn
    exact ⟨e', by rw [tag_take hee]; exact List.mem_append_left _ he', r⟩
  · rw [tag_take hee] at he'
    rcases List.mem_append.1 he' with he' | he'
    · obtain ⟨gb, a, b, c, d⟩ := h2 e' he' h3
      exact ⟨gb, a, C_at_blk b (hT.far gb (C_at_lt b (hn e' (List.mem_of_mem_take he'))) d), c, d⟩
    · obtain rfl := List.mem_singleton.1 he'
      exact absurd h3 (not_stored (.inr ht))
end Go.Proofs.YtnodmobblamlgaaDoor
/- A row of the directory read by tiff's decoder, over its state. -/
namespace Go.Proofs.YtnodmobblamlgaaDoor
open Go.RowKit Go.Proofs.YtnodmobblamlgaaDoorW.PrintWords Go.Proofs.YtnodmobblamlgaaDoorW.PrintLast Go.Proofs.YtnodmobblamlgaaDoorW.PrintMore
set_option linter.unusedVariables false
set_option linter.unusedSimpArgs false

/-- What the decoder's surroundings hold at the start. -/
structure Src (W0 : World) (g : Nat) (A : Option Addr) (c N : Nat) (xs : List Int) : Prop where
  rd : W0.heap[g]? = some (rdr A N c 0 (-1))
  file : Kd.C (Kd.int .u8) W0 A N xs
  l3 : W0.cell? ⟨5, 3, none⟩ = some (.int .u32 2)
  l4 : W0.cell? ⟨5, 4, none⟩ = some (.int .u32 4)
  len : xs.length = N
  cap : N ≤ c
  small : N ≤ 13000000
theorem Src.dw {W0 w : World} {g fm k : Nat} {T : TypeId} {A : Option Addr} {c N : Nat} {xs : List Int} {es : List Ent} (h : Src W0 g A c N xs) (hs : DecS W0 w g T fm es k) : DW w (fm + 1) g T A c N xs := by
  obtain ⟨pal, hd, _⟩ := hs.dec
  have hb := hs.below
  exact ⟨(blk_cell hd 0).trans rfl, (blk_cell hd 1).trans rfl, blk_below hb h.rd, Kd.C_below h.file hb, cell_below hb h.l3, cell_below hb h.l4⟩

theorem DecS.step {W0 w w1 : World} {g fm k : Nat} {T : TypeId} {es : List Ent} (h : DecS W0 w g T fm es k) (hb : Below w.heap.size w w1) : DecS W0 w1 g T fm es k := by
  obtain ⟨pal, hd, hp⟩ := h.dec
  obtain ⟨f, hI, h1, h2⟩ := h.feat
  have hT : Turn (fun _ => False) w w1 := Turn.fresh hb
  exact ⟨⟨pal, blk_below hb hd, hp.turn hT (fun _ hf => hf.elim)⟩, ⟨f, hI.below hb, h1, fun e he hs => by obtain ⟨gb, a, b, c⟩ := h2 e he hs; exact ⟨gb, a, Kd.C_below b hb, c⟩⟩, h.below.trans (hb.mono h.below.size), h.fm0⟩

theorem parse_step_l (W0 w : World) (g fm : Nat) (A : Option Addr) (c N : Nat) (xs : List Int) (dir : Nat) (es : List Ent) (k : Nat) (e : Ent) (P : Option Addr) (cap : Nat) (hS : Src W0 g A c N xs) (hD : Dir false xs dir es) (hE : ∀ e ∈ es, EntD e) (hasc : es.Pairwise (fun a b => a.tag < b.tag)) (hlen : es.length ≤ 100)
    (hee : es[k]? = some e) (hcap : 12 ≤ cap) (h : DecS W0 w g 118 fm es k) (hP : Kd.C (Kd.int .u8) w P 12 ((xs.drop (dir + 2 + 12 * k)).take 12)) :
    Calls Tryd.prog 43 #[.pointer (some ⟨fm + 1, 0, none⟩), .slice P 12 cap] w fun x w' => x = .returned (.tuple #[.int .i64 e.tag, .nilIface]) ∧ DecS W0 w' g 118 fm es (k + 1) ∧ Turn (fun k => k = fm ∨ k = fm + 1) w w' := by
  have hdw := hS.dw h
  have he := hE e (List.mem_of_getElem? hee)
  have hk : k < es.length := (List.getElem?_eq_some_iff.1 hee).elim fun h _ => h
  have hn : ∀ e ∈ es, 1 ≤ e.nums.length := fun e he => (hE e he).ok.n1
  obtain ⟨pal, hd, hp⟩ := h.dec
  rcases he.cls with hc | hc | ⟨hc, h1, h2⟩
  · obtain ⟨f, hI, f1, f2⟩ := h.feat
    refine (parse_keep_l (fm + 1) g fm k f A c N xs dir es k e P cap w hD hee he.ok hS.len hS.cap hS.small hcap hdw hP ((blk_cell hd 8).trans rfl) hI (by omega) hc).mono ?_
    rintro x w' ⟨rfl, hT, gb, hgb, hC, hI1⟩
    exact ⟨rfl, h.keep hasc hI f1 f2 hn hee hc hT hgb hC hI1, hT.mono (fun k hk => .inl hk)⟩
  · refine (parse_skip_l (fm + 1) g A c N xs dir es k e P cap w hD hee hS.len hcap hdw hP hc).mono ?_
    rintro x w' ⟨rfl, hb⟩
    exact ⟨rfl, h.skip hee hc hb, Turn.fresh hb⟩
  · refine (parse_pal_l (fm + 1) g _ A c N xs dir es k e P cap w hD hee he.ok hS.len hS.cap hS.small hcap hdw hP hd (by simp) hc h1 h2).mono ?_
    rintro x w' ⟨rfl, hT, pb, hpb, hd1, hP1⟩
    exact ⟨rfl, h.pal hasc hn hee hc hT hpb hd1 hP1, hT.mono (fun k hk => .inr hk)⟩

theorem parse_step_b (W0 w : World) (g fm : Nat) (A : Option Addr) (c N : Nat) (xs : List Int) (dir : Nat) (es : List Ent) (k : Nat) (e : Ent) (P : Option Addr) (cap : Nat) (hS : Src W0 g A c N xs) (hD : Dir true xs dir es) (hE : ∀ e ∈ es, EntD e) (hasc : es.Pairwise (fun a b => a.tag < b.tag)) (hlen : es.length ≤ 100)
    (hee : es[k]? = some e) (hcap : 12 ≤ cap) (h : DecS W0 w g 119 fm es k) (hP : Kd.C (Kd.int .u8) w P 12 ((xs.drop (dir + 2 + 12 * k)).take 12)) :
    Calls Tryd.prog 43 #[.pointer (some ⟨fm + 1, 0, none⟩), .slice P 12 cap] w fun x w' => x = .returned (.tuple #[.int .i64 e.tag, .nilIface]) ∧ DecS W0 w' g 119 fm es (k + 1) ∧ Turn (fun k => k = fm ∨ k = fm + 1) w w' := by
  have hdw := hS.dw h
  have he := hE e (List.mem_of_getElem? hee)
  have hk : k < es.length := (List.getElem?_eq_some_iff.1 hee).elim fun h _ => h
  have hn : ∀ e ∈ es, 1 ≤ e.nums.length := fun e he => (hE e he).ok.n1
  obtain ⟨pal, hd, hp⟩ := h.dec
  rcases he.cls with hc | hc | ⟨hc, h1, h2⟩
  · obtain ⟨f, hI, f1, f2⟩ := h.feat
    refine (parse_keep_b (fm + 1) g fm k f A c N xs dir es k e P cap w hD hee he.ok hS.len hS.cap hS.small hcap hdw hP ((blk_cell hd 8).trans rfl) hI (by omega) hc).mono ?_
    rintro x w' ⟨rfl, hT, gb, hgb, hC, hI1⟩
    exact ⟨rfl, h.keep hasc hI f1 f2 hn hee hc hT hgb hC hI1, hT.mono (fun k hk => .inl hk)⟩
  · refine (parse_skip_b (fm + 1) g A c N xs dir es k e P cap w hD hee hS.len hcap hdw hP hc).mono ?_
    rintro x w' ⟨rfl, hb⟩
    exact ⟨rfl, h.skip hee hc hb, Turn.fresh hb⟩
  · refine (parse_pal_b (fm + 1) g _ A c N xs dir es k e P cap w hD hee he.ok hS.len hS.cap hS.small hcap hdw hP hd (by simp) hc h1 h2).mono ?_
    rintro x w' ⟨rfl, hT, pb, hpb, hd1, hP1⟩
    exact ⟨rfl, h.pal hasc hn hee hc hT hpb hd1 hP1, hT.mono (fun k hk => .inr hk)⟩
end Go.Proofs.YtnodmobblamlgaaDoor
/- tiff's firstVal. -/
namespace Go.Proofs.YtnodmobblamlgaaDoor
open Go.RowKit Go.Proofs.YtnodmobblamlgaaDoorW.PrintWords Go.Proofs.YtnodmobblamlgaaDoorW.PrintLast Go.Proofs.YtnodmobblamlgaaDoorW.PrintMore
set_option linter.unusedVariables false
set_option linter.unusedSimpArgs false

set_option maxRecDepth 100000 in
set_option maxHeartbeats 1600000 in
theorem firstVal_any (d fm m gb len : Nat) (key : Int) (hkey : 0 ≤ key ∧ key < 65536) (f : Int → Option Value) (ys : List Int) (v : Int) (w : World) (h8 : w.cell? ⟨d, 8, none⟩ = some (.map (some fm))) (hI : IMap w fm m f) (hf : f key = some (.slice (some ⟨gb, 0, none⟩) len len)) (hC : Kd.C (Kd.int .u64) w (some ⟨gb, 0, none⟩) len ys) (hl : 1 ≤ len) (hv : ys[0]? = some v) :
    Calls Tryd.prog 44 #[.pointer (some ⟨d, 0, none⟩), .int .i64 key] w fun e w' => e = .returned (.int .u64 v) ∧ w = w' := by
  have hlook := hI.look Tryd.underlying87 (zero38 w) (K64.mk (show -9223372036854775808 ≤ key by omega) (by omega))
  rw [hf] at hlook
  have hlook2 : (Instr.lookup 87 (.map (some fm)) (.int .i64 key) false).run Tryd.prog w = .ok (.slice (some ⟨gb, 0, none⟩) len len) w := hlook
  obtain ⟨ad, e, hc⟩ := (Kd.reads_of_C (enc := Value.int .u64) (d := (0 : Int)) hC).2.2 (by omega)
  obtain rfl := Option.some.inj e
  have h0 := hc 0 (by omega)
  rw [add_plain, List.getD_eq_getElem?_getD, hv] at h0
  have h1 : w.cell? ⟨gb, 0, none⟩ = some (.int .u64 v) := h0
  have hne : ¬ ((len : Int) = 0) := by omega
  have hlt : (0 : Int) < (len : Int) := by omega
  clear hI hf hC hc h0 hlook hv
  go_enter Tryd.func44, Tryd.ntmps44
  go_wp2
  go_ret
  exact ⟨rfl, rfl⟩
/-- What the rows tell of a picture's form. -/
structure Cfg (es : List Ent) (wide high : Nat) (x3 x4 x5 : Int) (ch : Nat) : Prop where
  w : ∃ e ∈ es, e.tag = 256 ∧ e.nums = [(wide : Int)]
  h : ∃ e ∈ es, e.tag = 257 ∧ e.nums = [(high : Int)]
  b : ∃ e ∈ es, e.tag = 258 ∧ e.nums = List.replicate ch x5
  p : ∃ e ∈ es, e.tag = 262 ∧ e.nums = [x3]
  x : x4 ≠ 0 → ∃ e ∈ es, e.tag = 338 ∧ e.nums = [x4]
/-- The first number of a row that is kept, whatever has been stored into the decoder's own cells since. -/
theorem feat_first {wr : World} {fm n : Nat} {es : List Ent} (h : Feat wr fm n es) (key v : Int) (hkey : stored key) (ys : List Int) (he : ∃ e ∈ es, e.tag = key ∧ e.nums = ys) (hv : ys[0]? = some v) :
    ∀ w, Turn (fun k => k = fm + 1) wr w → w.cell? ⟨fm + 1, 8, none⟩ = some (.map (some fm)) → Calls Tryd.prog 44 #[.pointer (some ⟨fm + 1, 0, none⟩), .int .i64 key] w fun e w' => e = .returned (.int .u64 v) ∧ w = w' := by
  intro w hT h8
  obtain ⟨f, hI, _, h2⟩ := h
  obtain ⟨e, hm, rfl, rfl⟩ := he
  obtain ⟨gb, a, b, c, d⟩ := h2 e hm hkey
  have hk : 0 ≤ e.tag ∧ e.tag < 65536 := by unfold stored at hkey; omega
  have hl : 1 ≤ e.nums.length := by
    have := (List.getElem?_eq_some_iff.1 hv).elim fun h _ => h
    omega
  exact firstVal_any (fm + 1) fm n gb e.nums.length e.tag hk f e.nums v w h8 (hT.imap hI (by omega)) a (C_at_blk b (hT.far gb (C_at_lt b hl) d)) hl hv
end Go.Proofs.YtnodmobblamlgaaDoor
/- The rows that spec.Write makes, as the decoder wants them. -/
namespace Go.Proofs.YtnodmobblamlgaaDoor
open Go.RowKit Go.Proofs.YtnodmobblamlgaaDoor.PFnConfig Go.Proofs.YtnodmobblamlgaaDoorW.PrintWords
set_option linter.unusedVariables false
set_option linter.unusedSimpArgs false

theorem ents_cfg (wide high : Nat) (x3 x4 x5 x6 : Int) (b7 : Bool) (tw th rows ch : Nat) (pl sz : List Int) (ps : List S57) (h4 : 0 ≤ x4) (h2 : x4 ≠ 0 → x3 = 2) : Cfg (entsOf wide high x3 x4 x5 x6 b7 tw th rows ch pl sz ps) wide high x3 x4 x5 ch :=
  ⟨⟨⟨256, 3, [(wide : Int)]⟩, by simp [entsOf, ents0], rfl, rfl⟩, ⟨⟨257, 4, [(high : Int)]⟩, by simp [entsOf, ents0], rfl, rfl⟩, ⟨⟨258, 3, List.replicate ch x5⟩, by simp [entsOf, ents0], rfl, rfl⟩, ⟨⟨262, 3, [x3]⟩, by simp [entsOf, ents0], rfl, rfl⟩,
    fun h => ⟨⟨338, 3, [x4]⟩, by have h0 : x3 = 2 ∧ 0 < x4 := ⟨h2 h, by omega⟩; simp only [entsOf, entsF, if_pos h0, List.mem_append]; exact .inr (by simp), rfl, rfl⟩⟩
theorem ents_cls (wide high : Nat) (x3 x4 x5 x6 : Int) (b7 : Bool) (tw th rows ch : Nat) (pl sz : List Int) (ps : List S57) (hl : ps.length = 256) (hps : ∀ v ∈ cols ps, 0 ≤ v ∧ v < 65536) :
    ∀ e ∈ entsOf wide high x3 x4 x5 x6 b7 tw th rows ch pl sz ps, stored e.tag ∨ e.tag = 277 ∨ (e.tag = 320 ∧ e.nums.length = 768 ∧ ∀ v ∈ e.nums, 0 ≤ v ∧ v < 65536) := by
  intro e he
  unfold stored
  simp only [entsOf, List.mem_append] at he
  rcases he with ((((((he | he) | he) | he) | he) | he) | he) | he
  · simp only [ents0, List.mem_cons, List.not_mem_nil, or_false] at he
    rcases he with rfl | rfl | rfl | rfl | rfl <;> simp
  · unfold entsA at he
    split at he
    · obtain rfl := List.mem_singleton.1 he
      simp
    · cases he
  · obtain rfl := List.mem_singleton.1 he
    simp
  · unfold entsB at he
    split at he
    · simp only [List.mem_cons, List.not_mem_nil, or_false] at he
      rcases he with rfl | rfl <;> simp
    · cases he
  · unfold entsC at he
    split at he
    · obtain rfl := List.mem_singleton.1 he
      simp
    · cases he
  · unfold entsD at he
    split at he
    · obtain rfl := List.mem_singleton.1 he
      have := cols_length ps
      exact .inr (.inr ⟨rfl, by show (cols ps).length = 768; omega, hps⟩)
    · cases he
  · unfold entsE at he
    split at he
    · simp only [List.mem_cons, List.not_mem_nil, or_false] at he
      rcases he with rfl | rfl | rfl | rfl <;> simp
    · cases he
  · unfold entsF at he
    split at he
    · obtain rfl := List.mem_singleton.1 he
      simp
    · cases he
end Go.Proofs.YtnodmobblamlgaaDoor
