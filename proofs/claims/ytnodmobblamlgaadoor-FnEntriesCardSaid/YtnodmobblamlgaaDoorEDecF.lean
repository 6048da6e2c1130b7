/- tiff's parseIFD and firstVal. Printed by genparse.py. -/
import Derived.Test.YtnodmobblamlgaaDoorEDecD
import Derived.Test.YtnodmobblamlgaaDoorEDecE
import Derived.StillTailTactics
namespace Go.Proofs.YtnodmobblamlgaaDoor
open Go.RowKit Go.Proofs.YtnodmobblamlgaaDoorW.PrintWords Go.Proofs.YtnodmobblamlgaaDoorW.PrintLast Go.Proofs.YtnodmobblamlgaaDoorW.PrintMore
set_option linter.unusedVariables false
set_option linter.unusedSimpArgs false

/-- A row of numbers at a block of its own: what stands in that block is all that it needs. -/
theorem C_at_blk {W w : World} {gb n : Nat} {k : IntKind} {ys : List Int} (h : Kd.C (Kd.int k) W (some ⟨gb, 0, none⟩) n ys) (hb : w.heap[gb]? = W.heap[gb]?) : Kd.C (Kd.int k) w (some ⟨gb, 0, none⟩) n ys := by
  have hr := Kd.reads_of_C (enc := Value.int k) (d := (0 : Int)) h
  refine Kd.C_of_reads (d := (0 : Int)) ⟨hr.1, hr.2.1, fun hp => ?_⟩
  obtain ⟨ad, e, hc⟩ := hr.2.2 hp
  obtain rfl := Option.some.inj e
  exact ⟨_, rfl, fun j hj => (World.cell?_of_block (by rw [add_block]; exact hb)).trans (hc j hj)⟩
theorem C_at_lt {W : World} {gb n : Nat} {k : IntKind} {ys : List Int} (h : Kd.C (Kd.int k) W (some ⟨gb, 0, none⟩) n ys) (hp : 0 < n) : gb < W.heap.size := by
  have hr := Kd.reads_of_C (enc := Value.int k) (d := (0 : Int)) h
  obtain ⟨ad, e, hc⟩ := hr.2.2 hp
  obtain rfl := Option.some.inj e
  have := World.block_lt_of_cell? W _ (hc 0 hp)
  rwa [add_block] at this
/-- A sum's value, for the walk alone. -/
abbrev WrI (x m : Int) : Prop := ∀ [Inhabited Nat], IntKind.i64.wrap x = m
theorem WrI.mk {x m : Int} (h : IntKind.i64.wrap x = m) : WrI x m := fun {_} => h
theorem lt_alloc (w : World) (o : Obj) : w.heap.size < (w.alloc o).heap.size := by simp
theorem WU {ys : List Int} (h : ys.length = 768 ∧ ∀ v ∈ ys, 0 ≤ v ∧ v < 65536) (q : Nat) (hq : q < 768) : IntKind.u16.wrap (rd ys (q : Int)) = rd ys (q : Int) := by
  have e : rd ys (q : Int) = ys[q]'(by omega) := by simp [rd, List.getD_eq_getElem?_getD, List.getElem?_eq_getElem (show q < ys.length by omega)]
  have := h.2 _ (List.getElem_mem (show q < ys.length by omega))
  rw [e, IntKind.wrap_u16]
  omega
theorem info100 : (Tryd.prog.info? 100).map (fun i => (i.zero, i.size, i.bytes)) = some (some .nilIface, 1, 16) := by kernel_rfl
/-- The colours of a palette, at a block of its own. -/
def PalB (w : World) (pb : Nat) (ys : List Int) : Prop :=
  ∃ cur, w.heap[pb]? = some (.cells cur 100 (0, 0)) ∧ cur.size = 256 ∧ ∀ j, j < 256 → cur[j]? = some (.iface 149 (.agg #[.int .u16 (rd ys j), .int .u16 (rd ys (j + 256)), .int .u16 (rd ys (j + 512)), .int .u16 65535]))

/-- ifdUint over a row of the file. -/
theorem ifdUint_l (d g : Nat) (A : Option Addr) (c N : Nat) (xs : List Int) (dir : Nat) (es : List Ent) (k : Nat) (e : Ent) (P : Option Addr) (cap : Nat) (W : World) (hD : Dir false xs dir es) (hee : es[k]? = some e) (hok : EntOk e) (hN : xs.length = N) (hcN : N ≤ c) (hl : N ≤ 13000000) (hcap : 12 ≤ cap)
    (hW : DW W d g 118 A c N xs) (hP : Kd.C (Kd.int .u8) W P 12 ((xs.drop (dir + 2 + 12 * k)).take 12)) :
    Calls Tryd.prog 52 #[.pointer (some ⟨d, 0, none⟩), .slice P 12 cap] W fun x w' => ∃ gb, x = .returned (.tuple #[.slice (some ⟨gb, 0, none⟩) e.nums.length e.nums.length, .nilIface]) ∧ Kd.C (Kd.int .u64) w' (some ⟨gb, 0, none⟩) e.nums.length e.nums ∧ W.heap.size ≤ gb ∧ Below W.heap.size W w' := by
  obtain ⟨hT, hK, hNm, f, hf8, hf1, hf2, hf3, hf4⟩ := hD.row k e hee
  have hfit := hD.fit
  have hk : k < es.length := (List.getElem?_eq_some_iff.1 hee).elim fun h _ => h
  obtain ⟨tag, kind, ys⟩ := e
  rcases hok.kind with h | h
  · replace h : kind = 3 := h
    subst h
    exact ifdUint_false3 d g A c N xs (dir + 2 + 12 * k) f ys.length ys P cap W hN hcN hl hcap rfl hok.n1 hok.n2 (fun v hv => ⟨(hok.vals v hv).1, (hok.vals v hv).2.1 rfl⟩) hW hP (by omega) hK hNm hf1 hf2 (by rw [← hN]; exact hf3) hf4
  · replace h : kind = 4 := h
    subst h
    exact ifdUint_false4 d g A c N xs (dir + 2 + 12 * k) f ys.length ys P cap W hN hcN hl hcap rfl hok.n1 hok.n2 (fun v hv => ⟨(hok.vals v hv).1, (hok.vals v hv).2.2⟩) hW hP (by omega) hK hNm hf1 hf2 (by rw [← hN]; exact hf3) hf4

set_option maxRecDepth 100000 in
set_option maxHeartbeats 8000000 in
theorem parse_keep_l (d g fm m : Nat) (ff : Int → Option Value) (A : Option Addr) (c N : Nat) (xs : List Int) (dir : Nat) (es : List Ent) (k : Nat) (e : Ent) (P : Option Addr) (cap : Nat) (W : World) (hD : Dir false xs dir es) (hee : es[k]? = some e) (hok : EntOk e) (hN : xs.length = N) (hcN : N ≤ c) (hl : N ≤ 13000000) (hcap : 12 ≤ cap)
    (hW : DW W d g 118 A c N xs) (hP : Kd.C (Kd.int .u8) W P 12 ((xs.drop (dir + 2 + 12 * k)).take 12)) (hfm : W.cell? ⟨d, 8, none⟩ = some (.map (some fm))) (hI : IMap W fm m ff) (hm : m < 1000)
    (htag : e.tag = 256 ∨ e.tag = 257 ∨ e.tag = 258 ∨ e.tag = 259 ∨ e.tag = 262 ∨ e.tag = 273 ∨ e.tag = 278 ∨ e.tag = 279 ∨ e.tag = 317 ∨ e.tag = 322 ∨ e.tag = 323 ∨ e.tag = 324 ∨ e.tag = 325 ∨ e.tag = 338) :
    Calls Tryd.prog 43 #[.pointer (some ⟨d, 0, none⟩), .slice P 12 cap] W fun x w' => x = .returned (.tuple #[.int .i64 e.tag, .nilIface]) ∧ Turn (fun k => k = fm) W w' ∧ ∃ gb, W.heap.size ≤ gb ∧ Kd.C (Kd.int .u64) w' (some ⟨gb, 0, none⟩) e.nums.length e.nums ∧
      IMap w' fm (m + 1) (fun j => if j = e.tag then some (.slice (some ⟨gb, 0, none⟩) e.nums.length e.nums.length) else ff j) := by
  have hfit := hD.fit
  have hk : k < es.length := (List.getElem?_eq_some_iff.1 hee).elim fun h _ => h
  have ht1 := hok.tag1
  have ht2 := hok.tag2
  obtain ⟨A0, cut0, hA0⟩ := row_cut false 2 0 2 xs (dir + 2 + 12 * k) 12 e.tag P cap (hD.row k e hee).1 rfl (by omega) (by omega) hcap .i64 .i64 0 2 rfl rfl
  rw [Nat.sub_zero] at cut0
  have R0 := Aside0.mk (fun w (hw : Below W.heap.size W w) => le16_any A0 cap e.tag w (by omega) (by omega) (hA0 w (Kd.C_below hP hw)))
  have RI := Aside0.mk (fun w (hw : Below W.heap.size W w) => ifdUint_l d g A c N xs dir es k e P cap w hD hee hok hN hcN hl hcap (hW.below hw) (Kd.C_below hP hw))
  have HI := Aside0.mk hI
  have HFM := Aside0.mk hfm
  have c1 := hW.c1
  have hl1 := hok.n1
  obtain ⟨tag, kind, ys⟩ := e
  dsimp only at hl1 htag ht1 ht2 R0 RI ⊢
  have HTAG := Aside0.mk (show -9223372036854775808 ≤ tag ∧ tag ≤ 9223372036854775807 by omega)
  have HTG := Aside0.mk htag
  clear hD hok hN hW hP hA0 hI hfm htag hee hk
  have nA := nilAhead_16l
  have mA := method_16l
  have HB0 := Aside0.mk (Below.refl W.heap.size W)
  go_enter Tryd.func43, Tryd.ntmps43
  go_upto_region 1 with (fail)
  go_region_with (go_at_call 88; (with_reducible refine (R0.out _ (by repeat (first | exact HB0.out | apply below_drew | apply pw_below_drewN))).mono ?_); rintro e w1 ⟨rfl, k1⟩; have K1 := Aside0.mk k1; clear k1)
  have HB1 := Aside0.mk (show Below W.heap.size W w1 from ⟨K1.out.os, K1.out.tape, K1.out.output, K1.out.size, K1.out.block⟩)
  clear K1 R0 c1 nA mA cut0
  go_upto_if 27 with (fail)
  go_cut [27] from 28 to 44 (fun v27 wx => v27 = .bool true ∧ w1 = wx)
  case first =>
    have htag := HTG.out
    clear HTAG HTG RI HI HFM
    rcases htag with h | h | h | h | h | h | h | h | h | h | h | h | h | h <;> subst h
    all_goals
      go_wp2
      go_meet
      exact ⟨rfl, rfl⟩
  case rest =>
  obtain ⟨rfl, rfl⟩ := hcut
  go_upto_region 23 with (go_at_call 52; (with_reducible refine (RI.out _ HB1.out).mono ?_); rintro e w2 ⟨gb, rfl, k1, k2, k3⟩; have KC := Aside0.mk k1; have KG := Aside0.mk k2; have KB := Aside0.mk k3; clear k1 k2 k3)
  have HB2 := Aside0.mk (HB1.out.trans (KB.out.mono HB1.out.size))
  have c8 := cell_below HB2.out HFM.out
  obtain ⟨w3, hrun, hI3, hg3⟩ := (HI.out.below HB2.out).upd Tryd.underlying87 (by simp [maxLen]; omega) (K64.mk HTAG.out.1 HTAG.out.2) (.slice (some ⟨gb, 0, none⟩) ys.length ys.length)
  have HI3 := Aside0.mk hI3
  have HG3 := Aside0.mk hg3
  clear hI3 hg3
  go_wp2
  go_ret2
  have hT : Turn (fun k => k = fm) W w3 := (Turn.fresh (S := fun k => k = fm) HB2.out).grown HG3.out (fun k hk => .inl (Option.some.inj hk).symm)
  refine ⟨rfl, hT, gb, Nat.le_trans HB1.out.size KG.out, ?_, HI3.out⟩
  have hne : gb ≠ fm := by have := HI.out.lt; have := KG.out; have := HB1.out.size; omega
  exact C_at_blk KC.out (HG3.out.block gb (C_at_lt KC.out hl1) (fun e => hne (Option.some.inj e)))

set_option maxRecDepth 100000 in
set_option maxHeartbeats 8000000 in
theorem parse_skip_l (d g : Nat) (A : Option Addr) (c N : Nat) (xs : List Int) (dir : Nat) (es : List Ent) (k : Nat) (e : Ent) (P : Option Addr) (cap : Nat) (W : World) (hD : Dir false xs dir es) (hee : es[k]? = some e) (hN : xs.length = N) (hcap : 12 ≤ cap)
    (hW : DW W d g 118 A c N xs) (hP : Kd.C (Kd.int .u8) W P 12 ((xs.drop (dir + 2 + 12 * k)).take 12)) (htag : e.tag = 277) :
    Calls Tryd.prog 43 #[.pointer (some ⟨d, 0, none⟩), .slice P 12 cap] W fun x w' => x = .returned (.tuple #[.int .i64 e.tag, .nilIface]) ∧ Below W.heap.size W w' := by
  have hfit := hD.fit
  have hk : k < es.length := (List.getElem?_eq_some_iff.1 hee).elim fun h _ => h
  obtain ⟨A0, cut0, hA0⟩ := row_cut false 2 0 2 xs (dir + 2 + 12 * k) 12 e.tag P cap (hD.row k e hee).1 rfl (by omega) (by omega) hcap .i64 .i64 0 2 rfl rfl
  rw [Nat.sub_zero] at cut0
  have R0 := Aside0.mk (fun w (hw : Below W.heap.size W w) => le16_any A0 cap e.tag w (by omega) (by omega) (hA0 w (Kd.C_below hP hw)))
  have c1 := hW.c1
  rw [htag] at R0 ⊢
  clear hD hN hW hP hA0 hee hk htag
  have nA := nilAhead_16l
  have mA := method_16l
  have HB0 := Aside0.mk (Below.refl W.heap.size W)
  go_enter Tryd.func43, Tryd.ntmps43
  go_upto_region 1 with (fail)
  go_region_with (go_at_call 88; (with_reducible refine (R0.out _ (by repeat (first | exact HB0.out | apply below_drew | apply pw_below_drewN))).mono ?_); rintro e w1 ⟨rfl, k1⟩; have K1 := Aside0.mk k1; clear k1)
  have HB1 := Aside0.mk (show Below W.heap.size W w1 from ⟨K1.out.os, K1.out.tape, K1.out.output, K1.out.size, K1.out.block⟩)
  clear K1 R0 c1 nA mA cut0
  go_wp2
  go_ret2
  exact ⟨rfl, HB1.out⟩

set_option maxRecDepth 100000 in
set_option maxHeartbeats 8000000 in
theorem parse_pal_l (d g : Nat) (ds : Array Value) (A : Option Addr) (c N : Nat) (xs : List Int) (dir : Nat) (es : List Ent) (k : Nat) (e : Ent) (P : Option Addr) (cap : Nat) (W : World) (hD : Dir false xs dir es) (hee : es[k]? = some e) (hok : EntOk e) (hN : xs.length = N) (hcN : N ≤ c) (hl : N ≤ 13000000) (hcap : 12 ≤ cap)
    (hW : DW W d g 118 A c N xs) (hP : Kd.C (Kd.int .u8) W P 12 ((xs.drop (dir + 2 + 12 * k)).take 12)) (hd : W.heap[d]? = some (.cells ds 89 (0, 0))) (hds : 9 < ds.size) (htag : e.tag = 320) (hlen : e.nums.length = 768) (hpv : ∀ v ∈ e.nums, 0 ≤ v ∧ v < 65536) :
    Calls Tryd.prog 43 #[.pointer (some ⟨d, 0, none⟩), .slice P 12 cap] W fun x w' => x = .returned (.tuple #[.int .i64 e.tag, .nilIface]) ∧ Turn (fun k => k = d) W w' ∧ ∃ pb, W.heap.size ≤ pb ∧ w'.heap[d]? = some (.cells (ds.setIfInBounds 9 (.slice (some ⟨pb, 0, none⟩) 256 256)) 89 (0, 0)) ∧ PalB w' pb e.nums := by
  have hfit := hD.fit
  have hk : k < es.length := (List.getElem?_eq_some_iff.1 hee).elim fun h _ => h
  obtain ⟨A0, cut0, hA0⟩ := row_cut false 2 0 2 xs (dir + 2 + 12 * k) 12 e.tag P cap (hD.row k e hee).1 rfl (by omega) (by omega) hcap .i64 .i64 0 2 rfl rfl
  rw [Nat.sub_zero] at cut0
  have R0 := Aside0.mk (fun w (hw : Below W.heap.size W w) => le16_any A0 cap e.tag w (by omega) (by omega) (hA0 w (Kd.C_below hP hw)))
  have RI := Aside0.mk (fun w (hw : Below W.heap.size W w) => ifdUint_l d g A c N xs dir es k e P cap w hD hee hok hN hcN hl hcap (hW.below hw) (Kd.C_below hP hw))
  rw [htag] at R0 ⊢
  rw [hlen] at RI
  have c1 := hW.c1
  obtain ⟨tag, kind, ys⟩ := e
  dsimp only at R0 RI hlen hpv ⊢
  have HD := Aside0.mk hd
  have HDS := Aside0.mk hds
  have HV := Aside0.mk (And.intro hlen hpv)
  clear hD hN hW hP hA0 hee hk htag hd hds hok hlen hpv
  have nA := nilAhead_16l
  have mA := method_16l
  have HB0 := Aside0.mk (Below.refl W.heap.size W)
  go_enter Tryd.func43, Tryd.ntmps43
  go_upto_region 1 with (fail)
  go_region_with (go_at_call 88; (with_reducible refine (R0.out _ (by repeat (first | exact HB0.out | apply below_drew | apply pw_below_drewN))).mono ?_); rintro e w1 ⟨rfl, k1⟩; have K1 := Aside0.mk k1; clear k1)
  have HB1 := Aside0.mk (show Below W.heap.size W w1 from ⟨K1.out.os, K1.out.tape, K1.out.output, K1.out.size, K1.out.block⟩)
  clear K1 R0 c1 nA mA cut0
  go_upto_region 31 with (go_at_call 52; (with_reducible refine (RI.out _ HB1.out).mono ?_); rintro e w2 ⟨gb, rfl, k1, k2, k3⟩; have KC := Aside0.mk k1; have KG := Aside0.mk k2; have KB := Aside0.mk k3; clear k1 k2 k3)
  have HB2 := Aside0.mk (HB1.out.trans (KB.out.mono HB1.out.size))
  have hmk : (Instr.makeSlice 65 (.int .i64 256) (.int .i64 256)).run Tryd.prog w2 = .ok (.slice (some ⟨w2.heap.size, 0, none⟩) 256 256) (w2.alloc (.cells (madeCells #[.nilIface] 256) 100)) := run_make_row' (P := Tryd.prog) 65 100 .nilIface 16 Tryd.underlying65 info100 rfl .i64 .i64 256 (by omega) (by omega) w2
  have hd3 := blk_below (HB2.out.trans (((Below.refl w2.heap.size w2).alloc (Nat.le_refl _) (.cells (madeCells #[Value.nilIface] 256) 100)).mono HB2.out.size)) HD.out
  have hfz := blk_frozen hd3 9
  have hce := (blk_cell hd3 9).trans (Array.getElem?_eq_getElem HDS.out)
  have hset := Turn.set hd3 9 (.slice (some ⟨w2.heap.size, 0, none⟩) 256 256)
  have HD4 := Aside0.mk hset.2
  have HP4 := Aside0.mk ((hset.1.far w2.heap.size (lt_alloc _ _) (fun h => by have := blk_lt HD.out; have := HB2.out.size; omega)).trans (Go.Deep.blk_alloc_new w2 (.cells (madeCells #[Value.nilIface] 256) 100)))
  have HT4 := Aside0.mk (((Turn.fresh (S := fun k => k = d) HB2.out).alloc (.cells (madeCells #[Value.nilIface] 256) 100)).trans hset.1 (fun k hk => .inl hk))
  have hgd : gb ≠ d := by have := blk_lt HD.out; have := KG.out; have := HB1.out.size; omega
  have hglt := C_at_lt KC.out (by omega)
  have KC4 := Aside0.mk (C_at_blk KC.out (w := (w2.alloc (.cells (madeCells #[Value.nilIface] 256) 100)).setCell ⟨d, 9, none⟩ (.slice (some ⟨w2.heap.size, 0, none⟩) 256 256)) ((hset.1.far gb (Nat.lt_trans hglt (lt_alloc _ _)) hgd).trans (Below.heap_alloc w2 _ gb hglt)))
  have HX := Aside0.mk (show d ≠ w2.heap.size ∧ gb ≠ w2.heap.size ∧ W.heap.size ≤ w2.heap.size from ⟨by have := blk_lt HD.out; have := HB2.out.size; omega, by omega, HB2.out.size⟩)
  clear hset hd3 hgd hglt RI HB0 HB1
  go_upto_region 33 with (fail)
  clear hmk hfz hce
  generalize (w2.alloc (.cells (madeCells #[Value.nilIface] 256) 100)).setCell ⟨d, 9, none⟩ (.slice (some ⟨w2.heap.size, 0, none⟩) 256 256) = w4 at HD4 HP4 HT4 KC4 ⊢
  generalize w2.heap.size = pb at HD4 HP4 HX ⊢
  clear HB2 KB KC KG
  go_loopg [12] 256 (fun kq v wr => ∃ (i : Nat) (cur : Array Value), v = .int .i64 i ∧ Aside0 (kq = 256 - i ∧ i ≤ 256) ∧ Aside0 (wr.heap[pb]? = some (.cells cur 100 (0, 0)) ∧ cur.size = 256) ∧ Aside0 (∀ j : Nat, j < i → cur[j]? = some (.iface 149 (.agg #[.int .u16 (rd ys j), .int .u16 (rd ys (j + 256)), .int .u16 (rd ys (j + 512)), .int .u16 65535]))) ∧ Aside0 (Turn (fun k => k = pb) w4 wr))
  case atStart => exact ⟨0, _, rfl, ⟨rfl, by omega⟩, ⟨HP4.out, by simp [size_madeCells]⟩, ⟨fun j hj => by omega⟩, ⟨Turn.refl _ _⟩⟩
  case round =>
    obtain ⟨i, cur, rfl, HI, HCUR, HJ, HTn⟩ := hrel
    have hi1 := HI.out.2
    rcases Nat.lt_or_ge i 256 with hi | hi
    ·
      have hdr := HTn.out.blk HD4.out HX.out.1
      have hce := (blk_cell hdr 9).trans (show _ = some (Value.slice (some ⟨pb, 0, none⟩) 256 256) by rw [Array.getElem?_setIfInBounds_self_of_lt HDS.out])
      have kc := C_at_blk KC4.out (HTn.out.far gb (C_at_lt KC4.out (by omega)) HX.out.2.1)
      have hcell : ∀ q : Nat, q < 768 → wr.cell? ⟨gb, q, none⟩ = some (.int .u64 (rd ys q)) := fun q hq => by
        obtain ⟨ad, e, hc⟩ := (Kd.reads_of_C (enc := Value.int .u64) (d := (0 : Int)) kc).2.2 (by omega)
        obtain rfl := Option.some.inj e
        have := hc q hq
        rw [add_plain] at this
        rw [this]
        rfl
      obtain ⟨q1, hq1⟩ : ∃ q, q = i + 256 := ⟨_, rfl⟩
      obtain ⟨q2, hq2⟩ : ∃ q, q = i + 512 := ⟨_, rfl⟩
      have b0 := hcell i (by omega)
      have b1 := hcell q1 (by omega)
      have b2 := hcell q2 (by omega)
      have g0 : (0 : Int) ≤ (i : Int) := by omega
      have g1 : (i : Int) < 256 := by omega
      have g2 : (i : Int) < 768 := by omega
      have g3 : (0 : Int) ≤ (q1 : Int) := by omega
      have g4 : (q1 : Int) < 768 := by omega
      have g5 : (0 : Int) ≤ (q2 : Int) := by omega
      have g6 : (q2 : Int) < 768 := by omega
      have HQ := Aside0.mk (And.intro hq1 hq2)
      have wr0 := WrI.mk (show IntKind.i64.wrap 512 = 512 by decide)
      have wr1 := WrI.mk (show IntKind.i64.wrap ((i : Int) + 256) = (q1 : Int) by rw [IntKind.wrap_i64]; omega)
      have wr2 := WrI.mk (show IntKind.i64.wrap ((i : Int) + 512) = (q2 : Int) by rw [IntKind.wrap_i64]; omega)
      clear hcell kc hdr hq1 hq2
      go_upto_region 35 with (fail)
      go_still_tail 28, (by kernel_rfl)
      change wpList _ _ _ _ _ wr.drew
      have hcb : wr.drew.heap[pb]? = some (.cells cur 100 (0, 0)) := HCUR.out.1
      have hpz := blk_frozen hcb i
      have hpc := (blk_cell hcb i).trans (Array.getElem?_eq_getElem (show i < cur.size by rw [HCUR.out.2]; exact hi))
      have HT5 := Aside0.mk HTn.out.drew
      have HC5 := Aside0.mk hcb
      clear hcb wr0 wr1 wr2 b0 b1 b2 hce
      generalize wr.drew = w6 at HT5 HC5 hpz hpc ⊢
      rw [WU HV.out i (by omega), WU HV.out q1 (by have := HQ.out; omega), WU HV.out q2 (by have := HQ.out; omega)]
      go_wp2
      go_roundg (256 - (i + 1))
      case measure => have := HI.out; omega
      case rel =>
        obtain ⟨V, hV⟩ : ∃ V, V = Value.iface 149 (.agg #[.int .u16 (rd ys i), .int .u16 (rd ys (i + 256)), .int .u16 (rd ys (i + 512)), .int .u16 65535]) := ⟨_, rfl⟩
        have e1 : (q1 : Int) = (i : Int) + 256 := by have := HQ.out; omega
        have e2 : (q2 : Int) = (i : Int) + 512 := by have := HQ.out; omega
        rw [e1, e2]
        have hset := Turn.set HC5.out i V
        rw [hV] at hset
        refine ⟨i + 1, _, by go_num, ⟨rfl, by omega⟩, ⟨hset.2, by simp [HCUR.out.2]⟩, ⟨fun j hj => ?_⟩, ⟨HT5.out.trans hset.1 (fun k hk => .inl hk)⟩⟩
        rw [← hV]
        rcases Nat.lt_or_ge j i with h | h
        · rw [Array.getElem?_setIfInBounds_ne (by omega)]
          exact HJ.out j h
        · obtain rfl : i = j := by omega
          rw [Array.getElem?_setIfInBounds_self_of_lt (by rw [HCUR.out.2]; exact hi), hV]
    · obtain rfl : i = 256 := by omega
      go_wp2
      go_ret2
      refine ⟨rfl, HT4.out.trans HTn.out (fun k hk => .inr (by rw [hk]; exact HX.out.2.2)), pb, HX.out.2.2, HTn.out.blk HD4.out HX.out.1, cur, HCUR.out.1, HCUR.out.2, HJ.out⟩

/-- ifdUint over a row of the file. -/
theorem ifdUint_b (d g : Nat) (A : Option Addr) (c N : Nat) (xs : List Int) (dir : Nat) (es : List Ent) (k : Nat) (e : Ent) (P : Option Addr) (cap : Nat) (W : World) (hD : Dir true xs dir es) (hee : es[k]? = some e) (hok : EntOk e) (hN : xs.length = N) (hcN : N ≤ c) (hl : N ≤ 13000000) (hcap : 12 ≤ cap)
    (hW : DW W d g 119 A c N xs) (hP : Kd.C (Kd.int .u8) W P 12 ((xs.drop (dir + 2 + 12 * k)).take 12)) :
    Calls Tryd.prog 52 #[.pointer (some ⟨d, 0, none⟩), .slice P 12 cap] W fun x w' => ∃ gb, x = .returned (.tuple #[.slice (some ⟨gb, 0, none⟩) e.nums.length e.nums.length, .nilIface]) ∧ Kd.C (Kd.int .u64) w' (some ⟨gb, 0, none⟩) e.nums.length e.nums ∧ W.heap.size ≤ gb ∧ Below W.heap.size W w' := by
  obtain ⟨hT, hK, hNm, f, hf8, hf1, hf2, hf3, hf4⟩ := hD.row k e hee
  have hfit := hD.fit
  have hk : k < es.length := (List.getElem?_eq_some_iff.1 hee).elim fun h _ => h
  obtain ⟨tag, kind, ys⟩ := e
  rcases hok.kind with h | h
  · replace h : kind = 3 := h
    subst h
    exact ifdUint_true3 d g A c N xs (dir + 2 + 12 * k) f ys.length ys P cap W hN hcN hl hcap rfl hok.n1 hok.n2 (fun v hv => ⟨(hok.vals v hv).1, (hok.vals v hv).2.1 rfl⟩) hW hP (by omega) hK hNm hf1 hf2 (by rw [← hN]; exact hf3) hf4
  · replace h : kind = 4 := h
    subst h
    exact ifdUint_true4 d g A c N xs (dir + 2 + 12 * k) f ys.length ys P cap W hN hcN hl hcap rfl hok.n1 hok.n2 (fun v hv => ⟨(hok.vals v hv).1, (hok.vals v hv).2.2⟩) hW hP (by omega) hK hNm hf1 hf2 (by rw [← hN]; exact hf3) hf4

set_option maxRecDepth 100000 in
set_option maxHeartbeats 8000000 in
theorem parse_keep_b (d g fm m : Nat) (ff : Int → Option Value) (A : Option Addr) (c N : Nat) (xs : List Int) (dir : Nat) (es : List Ent) (k : Nat) (e : Ent) (P : Option Addr) (cap : Nat) (W : World) (hD : Dir true xs dir es) (hee : es[k]? = some e) (hok : EntOk e) (hN : xs.length = N) (hcN : N ≤ c) (hl : N ≤ 13000000) (hcap : 12 ≤ cap)
    (hW : DW W d g 119 A c N xs) (hP : Kd.C (Kd.int .u8) W P 12 ((xs.drop (dir + 2 + 12 * k)).take 12)) (hfm : W.cell? ⟨d, 8, none⟩ = some (.map (some fm))) (hI : IMap W fm m ff) (hm : m < 1000)
    (htag : e.tag = 256 ∨ e.tag = 257 ∨ e.tag = 258 ∨ e.tag = 259 ∨ e.tag = 262 ∨ e.tag = 273 ∨ e.tag = 278 ∨ e.tag = 279 ∨ e.tag = 317 ∨ e.tag = 322 ∨ e.tag = 323 ∨ e.tag = 324 ∨ e.tag = 325 ∨ e.tag = 338) :
    Calls Tryd.prog 43 #[.pointer (some ⟨d, 0, none⟩), .slice P 12 cap] W fun x w' => x = .returned (.tuple #[.int .i64 e.tag, .nilIface]) ∧ Turn (fun k => k = fm) W w' ∧ ∃ gb, W.heap.size ≤ gb ∧ Kd.C (Kd.int .u64) w' (some ⟨gb, 0, none⟩) e.nums.length e.nums ∧
      IMap w' fm (m + 1) (fun j => if j = e.tag then some (.slice (some ⟨gb, 0, none⟩) e.nums.length e.nums.length) else ff j) := by
  have hfit := hD.fit
  have hk : k < es.length := (List.getElem?_eq_some_iff.1 hee).elim fun h _ => h
  have ht1 := hok.tag1
  have ht2 := hok.tag2
  obtain ⟨A0, cut0, hA0⟩ := row_cut true 2 0 2 xs (dir + 2 + 12 * k) 12 e.tag P cap (hD.row k e hee).1 rfl (by omega) (by omega) hcap .i64 .i64 0 2 rfl rfl
  rw [Nat.sub_zero] at cut0
  have R0 := Aside0.mk (fun w (hw : Below W.heap.size W w) => be16_any A0 cap e.tag w (by omega) (by omega) (hA0 w (Kd.C_below hP hw)))
  have RI := Aside0.mk (fun w (hw : Below W.heap.size W w) => ifdUint_b d g A c N xs dir es k e P cap w hD hee hok hN hcN hl hcap (hW.below hw) (Kd.C_below hP hw))
  have HI := Aside0.mk hI
  have HFM := Aside0.mk hfm
  have c1 := hW.c1
  have hl1 := hok.n1
  obtain ⟨tag, kind, ys⟩ := e
  dsimp only at hl1 htag ht1 ht2 R0 RI ⊢
  have HTAG := Aside0.mk (show -9223372036854775808 ≤ tag ∧ tag ≤ 9223372036854775807 by omega)
  have HTG := Aside0.mk htag
  clear hD hok hN hW hP hA0 hI hfm htag hee hk
  have nA := nilAhead_16b
  have mA := method_16b
  have HB0 := Aside0.mk (Below.refl W.heap.size W)
  go_enter Tryd.func43, Tryd.ntmps43
  go_upto_region 1 with (fail)
  go_region_with (go_at_call 96; (with_reducible refine (R0.out _ (by repeat (first | exact HB0.out | apply below_drew | apply pw_below_drewN))).mono ?_); rintro e w1 ⟨rfl, k1⟩; have K1 := Aside0.mk k1; clear k1)
  have HB1 := Aside0.mk (show Below W.heap.size W w1 from ⟨K1.out.os, K1.out.tape, K1.out.output, K1.out.size, K1.out.block⟩)
  clear K1 R0 c1 nA mA cut0
  go_upto_if 27 with (fail)
  go_cut [27] from 28 to 44 (fun v27 wx => v27 = .bool true ∧ w1 = wx)
  case first =>
    have htag := HTG.out
    clear HTAG HTG RI HI HFM
    rcases htag with h | h | h | h | h | h | h | h | h | h | h | h | h | h <;> subst h
    all_goals
      go_wp2
      go_meet
      exact ⟨rfl, rfl⟩
  case rest =>
  obtain ⟨rfl, rfl⟩ := hcut
  go_upto_region 23 with (go_at_call 52; (with_reducible refine (RI.out _ HB1.out).mono ?_); rintro e w2 ⟨gb, rfl, k1, k2, k3⟩; have KC := Aside0.mk k1; have KG := Aside0.mk k2; have KB := Aside0.mk k3; clear k1 k2 k3)
  have HB2 := Aside0.mk (HB1.out.trans (KB.out.mono HB1.out.size))
  have c8 := cell_below HB2.out HFM.out
  obtain ⟨w3, hrun, hI3, hg3⟩ := (HI.out.below HB2.out).upd Tryd.underlying87 (by simp [maxLen]; omega) (K64.mk HTAG.out.1 HTAG.out.2) (.slice (some ⟨gb, 0, none⟩) ys.length ys.length)
  have HI3 := Aside0.mk hI3
  have HG3 := Aside0.mk hg3
  clear hI3 hg3
  go_wp2
  go_ret2
  have hT : Turn (fun k => k = fm) W w3 := (Turn.fresh (S := fun k => k = fm) HB2.out).grown HG3.out (fun k hk => .inl (Option.some.inj hk).symm)
  refine ⟨rfl, hT, gb, Nat.le_trans HB1.out.size KG.out, ?_, HI3.out⟩
  have hne : gb ≠ fm := by have := HI.out.lt; have := KG.out; have := HB1.out.size; omega
  exact C_at_blk KC.out (HG3.out.block gb (C_at_lt KC.out hl1) (fun e => hne (Option.some.inj e)))

set_option maxRecDepth 100000 in
set_option maxHeartbeats 8000000 in
theorem parse_skip_b (d g : Nat) (A : Option Addr) (c N : Nat) (xs : List Int) (dir : Nat) (es : List Ent) (k : Nat) (e : Ent) (P : Option Addr) (cap : Nat) (W : World) (hD : Dir true xs dir es) (hee : es[k]? = some e) (hN : xs.length = N) (hcap : 12 ≤ cap)
    (hW : DW W d g 119 A c N xs) (hP : Kd.C (Kd.int .u8) W P 12 ((xs.drop (dir + 2 + 12 * k)).take 12)) (htag : e.tag = 277) :
    Calls Tryd.prog 43 #[.pointer (some ⟨d, 0, none⟩), .slice P 12 cap] W fun x w' => x = .returned (.tuple #[.int .i64 e.tag, .nilIface]) ∧ Below W.heap.size W w' := by
  have hfit := hD.fit
  have hk : k < es.length := (List.getElem?_eq_some_iff.1 hee).elim fun h _ => h
  obtain ⟨A0, cut0, hA0⟩ := row_cut true 2 0 2 xs (dir + 2 + 12 * k) 12 e.tag P cap (hD.row k e hee).1 rfl (by omega) (by omega) hcap .i64 .i64 0 2 rfl rfl
  rw [Nat.sub_zero] at cut0
  have R0 := Aside0.mk (fun w (hw : Below W.heap.size W w) => be16_any A0 cap e.tag w (by omega) (by omega) (hA0 w (Kd.C_below hP hw)))
  have c1 := hW.c1
  rw [htag] at R0 ⊢
  clear hD hN hW hP hA0 hee hk htag
  have nA := nilAhead_16b
  have mA := method_16b
  have HB0 := Aside0.mk (Below.refl W.heap.size W)
  go_enter Tryd.func43, Tryd.ntmps43
  go_upto_region 1 with (fail)
  go_region_with (go_at_call 96; (with_reducible refine (R0.out _ (by repeat (first | exact HB0.out | apply below_drew | apply pw_below_drewN))).mono ?_); rintro e w1 ⟨rfl, k1⟩; have K1 := Aside0.mk k1; clear k1)
  have HB1 := Aside0.mk (show Below W.heap.size W w1 from ⟨K1.out.os, K1.out.tape, K1.out.output, K1.out.size, K1.out.block⟩)
  clear K1 R0 c1 nA mA cut0
  go_wp2
  go_ret2
  exact ⟨rfl, HB1.out⟩

set_option maxRecDepth 100000 in
set_option maxHeartbeats 8000000 in
theorem parse_pal_b (d g : Nat) (ds : Array Value) (A : Option Addr) (c N : Nat) (xs : List Int) (dir : Nat) (es : List Ent) (k : Nat) (e : Ent) (P : Option Addr) (cap : Nat) (W : World) (hD : Dir true xs dir es) (hee : es[k]? = some e) (hok : EntOk e) (hN : xs.length = N) (hcN : N ≤ c) (hl : N ≤ 13000000) (hcap : 12 ≤ cap)
    (hW : DW W d g 119 A c N xs) (hP : Kd.C (Kd.int .u8) W P 12 ((xs.drop (dir + 2 + 12 * k)).take 12)) (hd : W.heap[d]? = some (.cells ds 89 (0, 0))) (hds : 9 < ds.size) (htag : e.tag = 320) (hlen : e.nums.length = 768) (hpv : ∀ v ∈ e.nums, 0 ≤ v ∧ v < 65536) :
    Calls Tryd.prog 43 #[.pointer (some ⟨d, 0, none⟩), .slice P 12 cap] W fun x w' => x = .returned (.tuple #[.int .i64 e.tag, .nilIface]) ∧ Turn (fun k => k = d) W w' ∧ ∃ pb, W.heap.size ≤ pb ∧ w'.heap[d]? = some (.cells (ds.setIfInBounds 9 (.slice (some ⟨pb, 0, none⟩) 256 256)) 89 (0, 0)) ∧ PalB w' pb e.nums := by
  have hfit := hD.fit
  have hk : k < es.length := (List.getElem?_eq_some_iff.1 hee).elim fun h _ => h
  obtain ⟨A0, cut0, hA0⟩ := row_cut true 2 0 2 xs (dir + 2 + 12 * k) 12 e.tag P cap (hD.row k e hee).1 rfl (by omega) (by omega) hcap .i64 .i64 0 2 rfl rfl
  rw [Nat.sub_zero] at cut0
  have R0 := Aside0.mk (fun w (hw : Below W.heap.size W w) => be16_any A0 cap e.tag w (by omega) (by omega) (hA0 w (Kd.C_below hP hw)))
  have RI := Aside0.mk (fun w (hw : Below W.heap.size W w) => ifdUint_b d g A c N xs dir es k e P cap w hD hee hok hN hcN hl hcap (hW.below hw) (Kd.C_below hP hw))
  rw [htag] at R0 ⊢
  rw [hlen] at RI
  have c1 := hW.c1
  obtain ⟨tag, kind, ys⟩ := e
  dsimp only at R0 RI hlen hpv ⊢
  have HD := Aside0.mk hd
  have HDS := Aside0.mk hds
  have HV := Aside0.mk (And.intro hlen hpv)
  clear hD hN hW hP hA0 hee hk htag hd hds hok hlen hpv
  have nA := nilAhead_16b
  have mA := method_16b
  have HB0 := Aside0.mk (Below.refl W.heap.size W)
  go_enter Tryd.func43, Tryd.ntmps43
  go_upto_region 1 with (fail)
  go_region_with (go_at_call 96; (with_reducible refine (R0.out _ (by repeat (first | exact HB0.out | apply below_drew | apply pw_below_drewN))).mono ?_); rintro e w1 ⟨rfl, k1⟩; have K1 := Aside0.mk k1; clear k1)
  have HB1 := Aside0.mk (show Below W.heap.size W w1 from ⟨K1.out.os, K1.out.tape, K1.out.output, K1.out.size, K1.out.block⟩)
  clear K1 R0 c1 nA mA cut0
  go_upto_region 31 with (go_at_call 52; (with_reducible refine (RI.out _ HB1.out).mono ?_); rintro e w2 ⟨gb, rfl, k1, k2, k3⟩; have KC := Aside0.mk k1; have KG := Aside0.mk k2; have KB := Aside0.mk k3; clear k1 k2 k3)
  have HB2 := Aside0.mk (HB1.out.trans (KB.out.mono HB1.out.size))
  have hmk : (Instr.makeSlice 65 (.int .i64 256) (.int .i64 256)).run Tryd.prog w2 = .ok (.slice (some ⟨w2.heap.size, 0, none⟩) 256 256) (w2.alloc (.cells (madeCells #[.nilIface] 256) 100)) := run_make_row' (P := Tryd.prog) 65 100 .nilIface 16 Tryd.underlying65 info100 rfl .i64 .i64 256 (by omega) (by omega) w2
  have hd3 := blk_below (HB2.out.trans (((Below.refl w2.heap.size w2).alloc (Nat.le_refl _) (.cells (madeCells #[Value.nilIface] 256) 100)).mono HB2.out.size)) HD.out
  have hfz := blk_frozen hd3 9
  have hce := (blk_cell hd3 9).trans (Array.getElem?_eq_getElem HDS.out)
  have hset := Turn.set hd3 9 (.slice (some ⟨w2.heap.size, 0, none⟩) 256 256)
  have HD4 := Aside0.mk hset.2
  have HP4 := Aside0.mk ((hset.1.far w2.heap.size (lt_alloc _ _) (fun h => by have := blk_lt HD.out; have := HB2.out.size; omega)).trans (Go.Deep.blk_alloc_new w2 (.cells (madeCells #[Value.nilIface] 256) 100)))
  have HT4 := Aside0.mk (((Turn.fresh (S := fun k => k = d) HB2.out).alloc (.cells (madeCells #[Value.nilIface] 256) 100)).trans hset.1 (fun k hk => .inl hk))
  have hgd : gb ≠ d := by have := blk_lt HD.out; have := KG.out; have := HB1.out.size; omega
  have hglt := C_at_lt KC.out (by omega)
  have KC4 := Aside0.mk (C_at_blk KC.out (w := (w2.alloc (.cells (madeCells #[Value.nilIface] 256) 100)).setCell ⟨d, 9, none⟩ (.slice (some ⟨w2.heap.size, 0, none⟩) 256 256)) ((hset.1.far gb (Nat.lt_trans hglt (lt_alloc _ _)) hgd).trans (Below.heap_alloc w2 _ gb hglt)))
  have HX := Aside0.mk (show d ≠ w2.heap.size ∧ gb ≠ w2.heap.size ∧ W.heap.size ≤ w2.heap.size from ⟨by have := blk_lt HD.out; have := HB2.out.size; omega, by omega, HB2.out.size⟩)
  clear hset hd3 hgd hglt RI HB0 HB1
  go_upto_region 33 with (fail)
  clear hmk hfz hce
  generalize (w2.alloc (.cells (madeCells #[Value.nilIface] 256) 100)).setCell ⟨d, 9, none⟩ (.slice (some ⟨w2.heap.size, 0, none⟩) 256 256) = w4 at HD4 HP4 HT4 KC4 ⊢
  generalize w2.heap.size = pb at HD4 HP4 HX ⊢
  clear HB2 KB KC KG
  go_loopg [12] 256 (fun kq v wr => ∃ (i : Nat) (cur : Array Value), v = .int .i64 i ∧ Aside0 (kq = 256 - i ∧ i ≤ 256) ∧ Aside0 (wr.heap[pb]? = some (.cells cur 100 (0, 0)) ∧ cur.size = 256) ∧ Aside0 (∀ j : Nat, j < i → cur[j]? = some (.iface 149 (.agg #[.int .u16 (rd ys j), .int .u16 (rd ys (j + 256)), .int .u16 (rd ys (j + 512)), .int .u16 65535]))) ∧ Aside0 (Turn (fun k => k = pb) w4 wr))
  case atStart => exact ⟨0, _, rfl, ⟨rfl, by omega⟩, ⟨HP4.out, by simp [size_madeCells]⟩, ⟨fun j hj => by omega⟩, ⟨Turn.refl _ _⟩⟩
  case round =>
    obtain ⟨i, cur, rfl, HI, HCUR, HJ, HTn⟩ := hrel
    have hi1 := HI.out.2
    rcases Nat.lt_or_ge i 256 with hi | hi
    ·
      have hdr := HTn.out.blk HD4.out HX.out.1
      have hce := (blk_cell hdr 9).trans (show _ = some (Value.slice (some ⟨pb, 0, none⟩) 256 256) by rw [Array.getElem?_setIfInBounds_self_of_lt HDS.out])
      have kc := C_at_blk KC4.out (HTn.out.far gb (C_at_lt KC4.out (by omega)) HX.out.2.1)
      have hcell : ∀ q : Nat, q < 768 → wr.cell? ⟨gb, q, none⟩ = some (.int .u64 (rd ys q)) := fun q hq => by
        obtain ⟨ad, e, hc⟩ := (Kd.reads_of_C (enc := Value.int .u64) (d := (0 : Int)) kc).2.2 (by omega)
        obtain rfl := Option.some.inj e
        have := hc q hq
        rw [add_plain] at this
        rw [this]
        rfl
      obtain ⟨q1, hq1⟩ : ∃ q, q = i + 256 := ⟨_, rfl⟩
      obtain ⟨q2, hq2⟩ : ∃ q, q = i + 512 := ⟨_, rfl⟩
      have b0 := hcell i (by omega)
      have b1 := hcell q1 (by omega)
      have b2 := hcell q2 (by omega)
      have g0 : (0 : Int) ≤ (i : Int) := by omega
      have g1 : (i : Int) < 256 := by omega
      have g2 : (i : Int) < 768 := by omega
      have g3 : (0 : Int) ≤ (q1 : Int) := by omega
      have g4 : (q1 : Int) < 768 := by omega
      have g5 : (0 : Int) ≤ (q2 : Int) := by omega
      have g6 : (q2 : Int) < 768 := by omega
      have HQ := Aside0.mk (And.intro hq1 hq2)
      have wr0 := WrI.mk (show IntKind.i64.wrap 512 = 512 by decide)
      have wr1 := WrI.mk (show IntKind.i64.wrap ((i : Int) + 256) = (q1 : Int) by rw [IntKind.wrap_i64]; omega)
      have wr2 := WrI.mk (show IntKind.i64.wrap ((i : Int) + 512) = (q2 : Int) by rw [IntKind.wrap_i64]; omega)
      clear hcell kc hdr hq1 hq2
      go_upto_region 35 with (fail)
      go_still_tail 28, (by kernel_rfl)
      change wpList _ _ _ _ _ wr.drew
      have hcb : wr.drew.heap[pb]? = some (.cells cur 100 (0, 0)) := HCUR.out.1
      have hpz := blk_frozen hcb i
      have hpc := (blk_cell hcb i).trans (Array.getElem?_eq_getElem (show i < cur.size by rw [HCUR.out.2]; exact hi))
      have HT5 := Aside0.mk HTn.out.drew
      have HC5 := Aside0.mk hcb
      clear hcb wr0 wr1 wr2 b0 b1 b2 hce
      generalize wr.drew = w6 at HT5 HC5 hpz hpc ⊢
      rw [WU HV.out i (by omega), WU HV.out q1 (by have := HQ.out; omega), WU HV.out q2 (by have := HQ.out; omega)]
      go_wp2
      go_roundg (256 - (i + 1))
      case measure => have := HI.out; omega
      case rel =>
        obtain ⟨V, hV⟩ : ∃ V, V = Value.iface 149 (.agg #[.int .u16 (rd ys i), .int .u16 (rd ys (i + 256)), .int .u16 (rd ys (i + 512)), .int .u16 65535]) := ⟨_, rfl⟩
        have e1 : (q1 : Int) = (i : Int) + 256 := by have := HQ.out; omega
        have e2 : (q2 : Int) = (i : Int) + 512 := by have := HQ.out; omega
        rw [e1, e2]
        have hset := Turn.set HC5.out i V
        rw [hV] at hset
        refine ⟨i + 1, _, by go_num, ⟨rfl, by omega⟩, ⟨hset.2, by simp [HCUR.out.2]⟩, ⟨fun j hj => ?_⟩, ⟨HT5.out.trans hset.1 (fun k hk => .inl hk)⟩⟩
        rw [← hV]
        rcases Nat.lt_or_ge j i with h | h
        · rw [Array.getElem?_setIfInBounds_ne (by omega)]
          exact HJ.out j h
        · obtain rfl : i = j := by omega
          rw [Array.getElem?_setIfInBounds_self_of_lt (by rw [HCUR.out.2]; exact hi), hV]
    · obtain rfl : i = 256 := by omega
      go_wp2
      go_ret2
      refine ⟨rfl, HT4.out.trans HTn.out (fun k hk => .inr (by rw [hk]; exact HX.out.2.2)), pb, HX.out.2.2, HTn.out.blk HD4.out HX.out.1, cur, HCUR.out.1, HCUR.out.2, HJ.out⟩
end Go.Proofs.YtnodmobblamlgaaDoor
