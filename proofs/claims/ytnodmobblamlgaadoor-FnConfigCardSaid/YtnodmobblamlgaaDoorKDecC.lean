/- tiff's ifdUint: the numbers of a row of the directory. -/
import Derived.Test.YtnodmobblamlgaaDoorKDecB
import Derived.Test.YtnodmobblamlgaaDoorKEnts
namespace Go.Proofs.YtnodmobblamlgaaDoor
open Go.RowKit Go.Proofs.YtnodmobblamlgaaDoorW.PrintWords Go.Proofs.YtnodmobblamlgaaDoorW.PrintLast Go.Proofs.YtnodmobblamlgaaDoorW.PrintMore
set_option linter.unusedVariables false
set_option linter.unusedSimpArgs false

/-- b[i:j], the numbers of whatever kinds. -/
theorem cutk_u8 (A : Option Addr) (c n : Nat) (xs : List Int) (a b : Nat) (hl : xs.length = n) (hab : a ≤ b) (hb : b ≤ n) (hc : n ≤ c) (kl kh : IntKind) (ai bi : Int) (hai : ai = a) (hbi : bi = b) :
    ∃ A' : Option Addr, (∀ W : World, (Instr.slice 26 (.slice A n c) (some (.int kl ai)) (some (.int kh bi)) none).run Tryd.prog W = .ok (.slice A' (b - a) (c - a)) W) ∧
      (∀ w, Kd.C (Kd.int .u8) w A n xs → Kd.C (Kd.int .u8) w A' (b - a) ((xs.take b).drop a)) := by
  subst hl hai hbi
  obtain ⟨i0, hi0, hsz0⟩ := i5'
  obtain ⟨A', h1, h2, h3⟩ := print_mid_of (P := Tryd.prog) (Value.int .u8) (0 : Int) 26 5 kl kh Tryd.underlying26 hi0 hsz0 A c xs (a : Int) (b : Int) (by omega) (by omega) (by omega) hc
  have hl : ((xs.take b).drop a).length = b - a := by rw [List.length_drop, List.length_take]; omega
  simp only [Int.toNat_natCast, hl] at h1 h2
  exact ⟨A', h1, fun w h => Kd.C_of_reads (h1 := fun _ => rfl) (h2 w (Kd.reads_of_C (h1 := fun _ => rfl) h))⟩
/-- A piece of a row that holds a number. -/
theorem row_cut (big : Bool) (n a b : Nat) (xs : List Int) (q m : Nat) (v : Int) (P : Option Addr) (cap : Nat) (hat : AtN big n xs (q + a) v) (hb : b = a + n) (hm : b ≤ m) (hq : q + m ≤ xs.length) (hc : m ≤ cap) (kl kh : IntKind) (ai bi : Int) (hai : ai = a) (hbi : bi = b) :
    ∃ A' : Option Addr, (∀ W : World, (Instr.slice 26 (.slice P m cap) (some (.int kl ai)) (some (.int kh bi)) none).run Tryd.prog W = .ok (.slice A' n (cap - a)) W) ∧
      (∀ w, Kd.C (Kd.int .u8) w P m ((xs.drop q).take m) → Kd.C (Kd.int .u8) w A' n (nb big n v)) := by
  have hl : ((xs.drop q).take m).length = m := by rw [List.length_take, List.length_drop]; omega
  obtain ⟨A', h1, h2⟩ := cutk_u8 P cap m ((xs.drop q).take m) a b hl (by omega) hm hc kl kh ai bi hai hbi
  have e : b - a = n := by omega
  rw [e] at h1
  refine ⟨A', h1, fun w h => ?_⟩
  have h3 := h2 w h
  rw [e] at h3
  have e2 : (((xs.drop q).take m).take b).drop a = nb big n v := by
    rw [List.take_take, Nat.min_eq_left hm, List.drop_take, List.drop_drop, e]
    exact hat.2
  rwa [e2] at h3
theorem cell_below {W w : World} (hb : Below W.heap.size W w) {a : Addr} {v : Value} (h : W.cell? a = some v) : w.cell? a = some v :=
  (World.cell?_of_block (hb.block _ (World.block_lt_of_cell? W _ h))).trans h
theorem blk_below {W w : World} (hb : Below W.heap.size W w) {g : Nat} {o : Obj} (h : W.heap[g]? = some o) : w.heap[g]? = some o := (hb.block _ (blk_lt h)).trans h
/-- What the decoder reads of its surroundings. -/
structure DW (W : World) (d g : Nat) (T : TypeId) (A : Option Addr) (c N : Nat) (xs : List Int) : Prop where
  c0 : W.cell? ⟨d, 0, none⟩ = some (.iface 71 (.pointer (some ⟨g, 0, none⟩)))
  c1 : W.cell? ⟨d, 1, none⟩ = some (.iface T (.agg #[]))
  rd : W.heap[g]? = some (rdr A N c 0 (-1))
  file : Kd.C (Kd.int .u8) W A N xs
  l3 : W.cell? ⟨5, 3, none⟩ = some (.int .u32 2)
  l4 : W.cell? ⟨5, 4, none⟩ = some (.int .u32 4)
theorem DW.below {W w : World} {d g : Nat} {T : TypeId} {A : Option Addr} {c N : Nat} {xs : List Int} (h : DW W d g T A c N xs) (hb : Below W.heap.size W w) : DW w d g T A c N xs :=
  ⟨cell_below hb h.c0, cell_below hb h.c1, blk_below hb h.rd, Kd.C_below h.file hb, cell_below hb h.l3, cell_below hb h.l4⟩
theorem nilAhead_16l (w : World) : (nilAhead 312 118 (.agg #[]) "Uint16").run Tryd.prog w = .ok (some false) w := by kernel_rfl
theorem method_16l (w : World) : (method 312 118 (.agg #[]) "Uint16").run Tryd.prog w = .ok (88, .agg #[]) w := by kernel_rfl
theorem nilAhead_32l (w : World) : (nilAhead 312 118 (.agg #[]) "Uint32").run Tryd.prog w = .ok (some false) w := by kernel_rfl
theorem method_32l (w : World) : (method 312 118 (.agg #[]) "Uint32").run Tryd.prog w = .ok (89, .agg #[]) w := by kernel_rfl
theorem nilAhead_16b (w : World) : (nilAhead 312 119 (.agg #[]) "Uint16").run Tryd.prog w = .ok (some false) w := by kernel_rfl
theorem method_16b (w : World) : (method 312 119 (.agg #[]) "Uint16").run Tryd.prog w = .ok (96, .agg #[]) w := by kernel_rfl
theorem nilAhead_32b (w : World) : (nilAhead 312 119 (.agg #[]) "Uint32").run Tryd.prog w = .ok (some false) w := by kernel_rfl
theorem method_32b (w : World) : (method 312 119 (.agg #[]) "Uint32").run Tryd.prog w = .ok (97, .agg #[]) w := by kernel_rfl
theorem info39 : (Tryd.prog.info? 39).map (fun i => (i.zero, i.size, i.bytes)) = some (some (.int .u64 0), 1, 8) := by kernel_rfl
theorem safe_lit (g : Nat) (A : Option Addr) (c n : Nat) (p2 : Int) (p3 : Int) (xs : List Int) (N off : Nat) (W : World) (hN : xs.length = N) (hp2 : p2 = n) (hp3 : p3 = off) (hn1 : 1 ≤ n) (hn2 : n ≤ 100000) (hin : off + n ≤ N) (hc : N ≤ c) (hl : N ≤ 13000000) (hb : W.heap[g]? = some (rdr A N c 0 (-1))) (hr : Kd.C (Kd.int .u8) W A N xs) :
    ∀ w, Below W.heap.size W w → Calls Tryd.prog 42 #[.iface 71 (.pointer (some ⟨g, 0, none⟩)), .int .u64 p2, .int .i64 p3] w fun e w' => ∃ gb, e = .returned (.tuple #[.slice (some ⟨gb, 0, none⟩) n n, .nilIface]) ∧
      Kd.C (Kd.int .u8) w' (some ⟨gb, 0, none⟩) n ((xs.drop off).take n) ∧ Below w.heap.size w w' := by
  subst hp2 hp3
  exact fun w hw => safe_any g A c n xs N off 0 (-1) w hN (blk_below hw hb) hn1 hn2 hin hc hl (Kd.C_below hr hw)
end Go.Proofs.YtnodmobblamlgaaDoor
