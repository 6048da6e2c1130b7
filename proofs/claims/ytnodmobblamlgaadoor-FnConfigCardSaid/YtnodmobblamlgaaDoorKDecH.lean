/- A row of the directory read by tiff's decoder, over its state. -/
import Derived.Test.YtnodmobblamlgaaDoorKDecG
namespace Go.Proofs.YtnodmobblamlgaaDoor
open Go.RowKit Go.Proofs.YtnodmobblamlgaaDoorW.PrintWords Go.Proofs.YtnodmobblamlgaaDoorW.PrintLast Go.Proofs.YtnodmobblamlgaaDoorW.PrintMore
set_option linter.unusedVariables false
set_option linter.unusedSimpArgs false

/-- What the decoder's surroundings hold at the start. -/
structure Src (W0 : World) (g : Nat) (A : Option Addr) (c N : Nat) (xs : List Int) : Prop where
  rd : W0.heap[g]? = some (rdr A N c 0 (-1))
  file : Kd.C (Kd.int .u8) W0 A N xs
  l3 : W0.cell? ⟨5, 3, none⟩ = some (.int .u32 2)
  l4 : W0.cell? ⟨5, 4, none⟩ = some (.int .u32 4)
  len : xs.length = N
  cap : N ≤ c
  small : N ≤ 13000000
theorem Src.dw {W0 w : World} {g fm k : Nat} {T : TypeId} {A : Option Addr} {c N : Nat} {xs : List Int} {es : List Ent} (h : Src W0 g A c N xs) (hs : DecS W0 w g T fm es k) : DW w (fm + 1) g T A c N xs := by
  obtain ⟨pal, hd, _⟩ := hs.dec
  have hb := hs.below
  exact ⟨(blk_cell hd 0).trans rfl, (blk_cell hd 1).trans rfl, blk_below hb h.rd, Kd.C_below h.file hb, cell_below hb h.l3, cell_below hb h.l4⟩

theorem DecS.step {W0 w w1 : World} {g fm k : Nat} {T : TypeId} {es : List Ent} (h : DecS W0 w g T fm es k) (hb : Below w.heap.size w w1) : DecS W0 w1 g T fm es k := by
  obtain ⟨pal, hd, hp⟩ := h.dec
  obtain ⟨f, hI, h1, h2⟩ := h.feat
  have hT : Turn (fun _ => False) w w1 := Turn.fresh hb
  exact ⟨⟨pal, blk_below hb hd, hp.turn hT (fun _ hf => hf.elim)⟩, ⟨f, hI.below hb, h1, fun e he hs => by obtain ⟨gb, a, b, c⟩ := h2 e he hs; exact ⟨gb, a, Kd.C_below b hb, c⟩⟩, h.below.trans (hb.mono h.below.size), h.fm0⟩

theorem parse_step_l (W0 w : World) (g fm : Nat) (A : Option Addr) (c N : Nat) (xs : List Int) (dir : Nat) (es : List Ent) (k : Nat) (e : Ent) (P : Option Addr) (cap : Nat) (hS : Src W0 g A c N xs) (hD : Dir false xs dir es) (hE : ∀ e ∈ es, EntD e) (hasc : es.Pairwise (fun a b => a.tag < b.tag)) (hlen : es.length ≤ 100)
    (hee : es[k]? = some e) (hcap : 12 ≤ cap) (h : DecS W0 w g 118 fm es k) (hP : Kd.C (Kd.int .u8) w P 12 ((xs.drop (dir + 2 + 12 * k)).take 12)) :
    Calls Tryd.prog 43 #[.pointer (some ⟨fm + 1, 0, none⟩), .slice P 12 cap] w fun x w' => x = .returned (.tuple #[.int .i64 e.tag, .nilIface]) ∧ DecS W0 w' g 118 fm es (k + 1) ∧ Turn (fun k => k = fm ∨ k = fm + 1) w w' := by
  have hdw := hS.dw h
  have he := hE e (List.mem_of_getElem? hee)
  have hk : k < es.length := (List.getElem?_eq_some_iff.1 hee).elim fun h _ => h
  have hn : ∀ e ∈ es, 1 ≤ e.nums.length := fun e he => (hE e he).ok.n1
  obtain ⟨pal, hd, hp⟩ := h.dec
  rcases he.cls with hc | hc | ⟨hc, h1, h2⟩
  · obtain ⟨f, hI, f1, f2⟩ := h.feat
    refine (parse_keep_l (fm + 1) g fm k f A c N xs dir es k e P cap w hD hee he.ok hS.len hS.cap hS.small hcap hdw hP ((blk_cell hd 8).trans rfl) hI (by omega) hc).mono ?_
    rintro x w' ⟨rfl, hT, gb, hgb, hC, hI1⟩
    exact ⟨rfl, h.keep hasc hI f1 f2 hn hee hc hT hgb hC hI1, hT.mono (fun k hk => .inl hk)⟩
  · refine (parse_skip_l (fm + 1) g A c N xs dir es k e P cap w hD hee hS.len hcap hdw hP hc).mono ?_
    rintro x w' ⟨rfl, hb⟩
    exact ⟨rfl, h.skip hee hc hb, Turn.fresh hb⟩
  · refine (parse_pal_l (fm + 1) g _ A c N xs dir es k e P cap w hD hee he.ok hS.len hS.cap hS.small hcap hdw hP hd (by simp) hc h1 h2).mono ?_
    rintro x w' ⟨rfl, hT, pb, hpb, hd1, hP1⟩
    exact ⟨rfl, h.pal hasc hn hee hc hT hpb hd1 hP1, hT.mono (fun k hk => .inr hk)⟩

theorem parse_step_b (W0 w : World) (g fm : Nat) (A : Option Addr) (c N : Nat) (xs : List Int) (dir : Nat) (es : List Ent) (k : Nat) (e : Ent) (P : Option Addr) (cap : Nat) (hS : Src W0 g A c N xs) (hD : Dir true xs dir es) (hE : ∀ e ∈ es, EntD e) (hasc : es.Pairwise (fun a b => a.tag < b.tag)) (hlen : es.length ≤ 100)
    (hee : es[k]? = some e) (hcap : 12 ≤ cap) (h : DecS W0 w g 119 fm es k) (hP : Kd.C (Kd.int .u8) w P 12 ((xs.drop (dir + 2 + 12 * k)).take 12)) :
    Calls Tryd.prog 43 #[.pointer (some ⟨fm + 1, 0, none⟩), .slice P 12 cap] w fun x w' => x = .returned (.tuple #[.int .i64 e.tag, .nilIface]) ∧ DecS W0 w' g 119 fm es (k + 1) ∧ Turn (fun k => k = fm ∨ k = fm + 1) w w' := by
  have hdw := hS.dw h
  have he := hE e (List.mem_of_getElem? hee)
  have hk : k < es.length := (List.getElem?_eq_some_iff.1 hee).elim fun h _ => h
  have hn : ∀ e ∈ es, 1 ≤ e.nums.length := fun e he => (hE e he).ok.n1
  obtain ⟨pal, hd, hp⟩ := h.dec
  rcases he.cls with hc | hc | ⟨hc, h1, h2⟩
  · obtain ⟨f, hI, f1, f2⟩ := h.feat
    refine (parse_keep_b (fm + 1) g fm k f A c N xs dir es k e P cap w hD hee he.ok hS.len hS.cap hS.small hcap hdw hP ((blk_cell hd 8).trans rfl) hI (by omega) hc).mono ?_
    rintro x w' ⟨rfl, hT, gb, hgb, hC, hI1⟩
    exact ⟨rfl, h.keep hasc hI f1 f2 hn hee hc hT hgb hC hI1, hT.mono (fun k hk => .inl hk)⟩
  · refine (parse_skip_b (fm + 1) g A c N xs dir es k e P cap w hD hee hS.len hcap hdw hP hc).mono ?_
    rintro x w' ⟨rfl, hb⟩
    exact ⟨rfl, h.skip hee hc hb, Turn.fresh hb⟩
  · refine (parse_pal_b (fm + 1) g _ A c N xs dir es k e P cap w hD hee he.ok hS.len hS.cap hS.small hcap hdw hP hd (by simp) hc h1 h2).mono ?_
    rintro x w' ⟨rfl, hT, pb, hpb, hd1, hP1⟩
    exact ⟨rfl, h.pal hasc hn hee hc hT hpb hd1 hP1, hT.mono (fun k hk => .inr hk)⟩
end Go.Proofs.YtnodmobblamlgaaDoor
