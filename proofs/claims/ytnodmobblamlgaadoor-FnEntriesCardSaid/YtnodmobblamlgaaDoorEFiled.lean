/- A file that spec.Write makes, as the decoder takes it; newDecoder over it in either order of bytes. -/
import Derived.Test.YtnodmobblamlgaaDoorEWriteH
import Derived.Test.YtnodmobblamlgaaDoorEShape
import Derived.Test.YtnodmobblamlgaaDoorEDecI
import Derived.Test.YtnodmobblamlgaaDoorECfgPlain
namespace Go.Proofs.YtnodmobblamlgaaDoor
open Go.RowKit Go.Proofs.YtnodmobblamlgaaDoor.PFnConfig Go.Proofs.YtnodmobblamlgaaDoorW.PrintWords Go.Proofs.YtnodmobblamlgaaDoorW.PrintLast Go.Proofs.YtnodmobblamlgaaDoorW.PrintMore
set_option linter.unusedVariables false
set_option linter.unusedSimpArgs false

/-- How many samples a pixel has. -/
def chN (x3 x4 : Int) : Nat := if x3 = 2 then (if x4 > 0 then 4 else 3) else 1
theorem chan_f (b0 : Bool) (wide high : Int) (x3 x4 x5 x6 : Int) (b7 : Bool) (tw th rows : Int) : spec_Tiff_Channels.f b0 wide high x3 x4 x5 x6 b7 tw th rows = some (chN x3 x4 : Int) := by
  unfold spec_Tiff_Channels.f chN
  split
  · split <;> rfl
  · rfl
theorem chN_le (x3 x4 : Int) : 1 ≤ chN x3 x4 ∧ chN x3 x4 ≤ 4 := by
  unfold chN
  split
  · split <;> omega
  · omega
theorem shp_tshape {b0 : Bool} {wide high : Nat} {x3 x4 x5 x6 : Int} {b7 : Bool} {tw th rows : Nat} (h : Shp b0 wide high x3 x4 x5 x6 b7 tw th rows) : TShape wide high x3 x4 x5 (chN x3 x4) := by
  have h1 := h.colour
  have h2 := h.alpha
  have h3 := h.a2
  have h4 := h.d2
  refine ⟨h.w2, h.h2, chN_le x3 x4, h.depth, ?_⟩
  have hx : x3 = 0 ∨ x3 = 1 ∨ x3 = 3 ∨ x3 = 2 := by omega
  unfold chN
  rcases hx with rfl | rfl | rfl | rfl
  · exact .inl ⟨rfl, by simp⟩
  · exact .inr (.inl ⟨rfl, by simp⟩)
  · exact .inr (.inr (.inl ⟨rfl, by simp⟩))
  · have hy : x4 = 0 ∨ x4 = 1 ∨ x4 = 2 := by omega
    have h5 := h4 rfl
    rcases hy with rfl | rfl | rfl
    · exact .inr (.inr (.inr (.inl ⟨rfl, rfl, by simp, by omega⟩)))
    · exact .inr (.inr (.inr (.inr (.inl ⟨rfl, rfl, by simp, by omega⟩))))
    · exact .inr (.inr (.inr (.inr (.inr ⟨rfl, rfl, by simp, by omega⟩))))
/-- A file as the decoder takes it. -/
structure Filed (big : Bool) (bs : List Int) (wide high : Nat) (x3 x4 x5 : Int) (ps : List S57) (es : List Ent) : Prop where
  dir : ∃ d, Dir big bs d es
  ent : ∀ e ∈ es, EntD e
  asc : es.Pairwise (fun a b => a.tag < b.tag)
  len : 1 ≤ es.length ∧ es.length ≤ 100
  cfg : Cfg es wide high x3 x4 x5 (chN x3 x4)
  shp : TShape wide high x3 x4 x5 (chN x3 x4)
  pal : x3 = 3 → ∃ e ∈ es, e.tag = 320 ∧ e.nums = cols ps
  size : bs.length ≤ 13000000
theorem ents_len (wide high : Nat) (x3 x4 x5 x6 : Int) (b7 : Bool) (tw th rows ch : Nat) (pl sz : List Int) (ps : List S57) : 1 ≤ (entsOf wide high x3 x4 x5 x6 b7 tw th rows ch pl sz ps).length ∧ (entsOf wide high x3 x4 x5 x6 b7 tw th rows ch pl sz ps).length ≤ 100 := by
  unfold entsOf ents0 entsA entsB entsC entsD entsE entsF
  simp only [List.length_append]
  split <;> split <;> split <;> split <;> simp only [List.length_cons, List.length_nil] <;> (first | omega | (split <;> simp only [List.length_cons, List.length_nil] <;> omega))
theorem filed_of {b0 : Bool} {wide high : Nat} {x3 x4 x5 x6 : Int} {b7 : Bool} {tw th rows : Nat} (h : Shp b0 wide high x3 x4 x5 x6 b7 tw th rows) {ps : List S57} (hl : ps.length = 256) (hps : ∀ v ∈ cols ps, 0 ≤ v ∧ v < 65536) {rs pl sz : List Int} (hp : 1 ≤ pl.length ∧ pl.length ≤ 40 ∧ sz.length = pl.length ∧ (∀ v ∈ pl, 0 ≤ v ∧ v < 20000000) ∧ (∀ v ∈ sz, 0 ≤ v ∧ v < 20000000))
    {bs : List Int} (hb : bs = fileF b0 rs (entsOf wide high x3 x4 x5 x6 b7 tw th rows (chN x3 x4) pl sz ps)) (hs : bs.length ≤ 13000000) : Filed b0 bs wide high x3 x4 x5 ps (entsOf wide high x3 x4 x5 x6 b7 tw th rows (chN x3 x4) pl sz ps) := by
  have hx5 : 0 ≤ x5 ∧ x5 ≤ 16 := by have := h.depth; omega
  have hx6 : 0 ≤ x6 ∧ x6 ≤ 32946 := by have := h.packing; omega
  have htw : tw ≤ 32 ∧ th ≤ 32 := by have := h.tiles; omega
  have hr : rows ≤ 40 := by have := h.r2; have := h.h2; omega
  refine ⟨⟨8 + rs.length, by rw [hb]; exact dir_of_file b0 rs _⟩, fun e he => ⟨ents_ok wide high x3 x4 x5 x6 b7 tw th rows _ pl sz ps h.w2 h.h2 h.colour h.alpha.2 hx5 hx6 htw hr (chN_le x3 x4) ⟨hp.1, hp.2.1⟩ hp.2.2.1 hp.2.2.2.1 hp.2.2.2.2 hl hps e he, ents_cls wide high x3 x4 x5 x6 b7 tw th rows _ pl sz ps hl hps e he⟩,
    ents_asc wide high x3 x4 x5 x6 b7 tw th rows _ pl sz ps, ents_len _ _ _ _ _ _ _ _ _ _ _ _ _ _, ents_cfg wide high x3 x4 x5 x6 b7 tw th rows _ pl sz ps h.alpha.1 h.a2, shp_tshape h, fun h3 => ⟨⟨320, 3, cols ps⟩, ?_, rfl, rfl⟩, hs⟩
  simp [entsOf, entsD, h3]
theorem newDec_any {big : Bool} {bs : List Int} {wide high : Nat} {x3 x4 x5 : Int} {ps : List S57} {es : List Ent} (h : Filed big bs wide high x3 x4 x5 ps es) (W : World) (g : Nat) (A : Option Addr) (c : Nat) (hrd : W.heap[g]? = some (rdr A bs.length c 0 (-1))) (hC : Kd.C (Kd.int .u8) W A bs.length bs) (hcap : bs.length ≤ c)
    (l3 : W.cell? ⟨5, 3, none⟩ = some (.int .u32 2)) (l4 : W.cell? ⟨5, 4, none⟩ = some (.int .u32 4)) : Calls Tryd.prog 31 #[.iface 71 (.pointer (some ⟨g, 0, none⟩))] W (DecOut W g es wide high x3 x4 x5) := by
  obtain ⟨d, hD⟩ := h.dir
  have hS : Src W g A c bs.length bs := ⟨hrd, hC, l3, l4, rfl, hcap, h.size⟩
  have hp : x3 = 3 → ∃ e ∈ es, e.tag = 320 := fun h3 => by obtain ⟨e, a, b, _⟩ := h.pal h3; exact ⟨e, a, b⟩
  cases big
  · exact newDec_l W g A c bs.length bs d es hS hD h.ent h.asc h.len.2 h.len.1 wide high x3 x4 x5 _ h.cfg h.shp hp
  · exact newDec_b W g A c bs.length bs d es hS hD h.ent h.asc h.len.2 h.len.1 wide high x3 x4 x5 _ h.cfg h.shp hp
end Go.Proofs.YtnodmobblamlgaaDoor
