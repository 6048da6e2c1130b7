/- The reader under tiff's decoder: slices.Clone, bytes.NewReader, newReaderAt, ReadAt, safeReadAt. -/
import Derived.Test.YtnodmobblamlgaaDoorEReads
import Derived.Test.YtnodmobblamlgaaDoorEMapI
import Derived.Test.YtnodmobblamlgaaDoorECodedAll
import Derived.StillTailTactics
import Derived.Deep.RegionWith
import Derived.Stop.Asserts
import Derived.Deep.RegionHeld3
import Derived.Test.YtnodmobblamlgaaDoorEEnts
namespace Go.Proofs.YtnodmobblamlgaaDoor
open Go.RowKit Go.Proofs.YtnodmobblamlgaaDoorW.PrintWords Go.Proofs.YtnodmobblamlgaaDoorW.PrintLast Go.Proofs.YtnodmobblamlgaaDoorW.PrintMore
set_option linter.unusedVariables false
set_option linter.unusedSimpArgs false

/-- The cells of a bytes.Reader. -/
def rdr (A : Option Addr) (n c : Nat) (i p : Int) : Obj := .cells #[.slice A n c, .int .i64 i, .int .i64 p] 93 (0, 0)

theorem info5x : (Tryd.prog.info? 5).map (fun i => (i.zero, i.size, i.bytes)) = some (some (.int .u8 0), 1, 1) := by kernel_rfl
set_option maxHeartbeats 800000 in
theorem clone_some (ad : Addr) (c0 : Nat) (l0 : List Int) (w : World) (hr0 : Kd.C (Kd.int .u8) w (some ad) l0.length l0) (hc0 : l0.length ≤ c0) (hl : l0.length ≤ 140737488355328) :
    Calls Tryd.prog 22 #[.slice (some ad) l0.length c0] w fun e w' => ∃ v : Value, e = .returned v ∧ Kd.R (Kd.int .u8) 5 w' w.heap.size (fun _ => True) v l0 ∧ Below w.heap.size w w' := by
  have q26 : ∀ (w : World) (a : Option Addr) (n c n' c' : Nat), (binOp .eql 26 (.slice a n c) (.slice none n' c')).run Tryd.prog w = .ok (.bool a.isNone) w := fun w a n c n' c' => Lib.run_eql_slice_nil w _ _ a n c n' c' Tryd.underlying26
  have HR0 := Aside0.mk hr0
  clear hr0
  have HL := Aside0.mk hl
  clear hl
  go_enter Tryd.func22, Tryd.ntmps22
  go_wp2_with (first | ((with_reducible refine gate_dst (N := 5) rfl ?_); refine Kd.R_lit (Kd.int .u8) _ 5 ?hg (N := 5) ?hd (xs := ([] : List Int)) (inner := []) (ok := fun _ => True) (okp := fun _ => True) ?hr ?hp (fun _ hk => hk) trivial (Below.refl w.heap.size w) (Nat.le_refl _) (by simp) ?_; (case hd => rfl); (case hg => rfl); (case hr => first | (go_simp; done) | (go_simp; rfl)); (case hp => exact (Reps.none _ _)); intro v5 w2 ho3 hb hg_ hnew_; have HO := Aside0.mk ho3; have HB := Aside0.mk hb; clear hg_ hnew_ ho3 hb) | ((with_reducible refine gate_builtin (b := .append) (xs := #[.tmp 5, .tmp 6]) rfl ?_); at_builtin; refine Kd.R_append_rows (Kd.int .u8) (w0 := w) w.heap.size rfl (.tmp 5) (.tmp 6) 26 5 (.int .u8 0) 1 rfl Tryd.underlying26 info5x rfl (by decide) (by omega) v5 [] l0 _ _ _ (fun _ => True) (fun _ => False) rfl rfl HO.out (Kd.C_below HR0.out HB.out) (fun _ _ h => h) (fun _ h => h.elim) (fun _ _ => trivial) HB.out HB.out.size (by have := HL.out; simp; omega) ?_; intro v7 w3 ho hb hg hat; have HO2 := Aside0.mk ho; have HB2 := Aside0.mk hb; clear ho hb hg hat))
  go_ret
  exact ⟨_, rfl, HO2.out, HB2.out⟩

set_option maxHeartbeats 800000 in
theorem newReader_any (A : Option Addr) (n c : Nat) (w : World) : Calls Tryd.prog 24 #[.slice A n c] w fun e w' => e = .returned (.pointer (some ⟨w.heap.size, 0, none⟩)) ∧ w' = w.alloc (rdr A n c 0 (-1)) := by
  go_enter Tryd.func24, Tryd.ntmps24
  go_wp2
  go_ret
  exact ⟨rfl, rfl⟩

set_option maxHeartbeats 800000 in
theorem readerAt_any (a : Addr) (w : World) : Calls Tryd.prog 41 #[.iface 71 (.pointer (some a))] w fun e w' => e = .returned (.iface 71 (.pointer (some a))) ∧ w' = w := by
  have hta := run_typeAssert_hasB (P := Tryd.prog) Tryd.underlying83 (t := 71) (by kernel_rfl) (.pointer (some a)) 91 w
  go_enter Tryd.func41, Tryd.ntmps41
  go_wp2
  go_ret
  exact ⟨rfl, rfl⟩

/-- copy into the first n cells of a block that is known, as a fact of the operation. -/
theorem run_copy_blk {P : Program} {W : World} (t t' ty e : TypeId) (kd : IntKind) (ht : P.underlying t = some (.slice e)) (hinfo : (P.info? e).map (·.size) = some 1)
    (g n cap : Nat) (cur : Array Value) (t2 : TypeId) (A : Option Addr) (m c : Nat) (ys : List Int)
    (hb : W.heap[g]? = some (.cells cur t2 (0, 0))) (hn : n ≤ cur.size) (HR : Kd.C (Kd.int kd) W A m ys) :
    ∃ w1 cur', (Builtin.copy_ #[t, t'] ty #[.slice (some ⟨g, 0, none⟩) n cap, .slice A m c]).run P W = .ok (.int .i64 ((min m n : Nat) : Int)) w1 ∧ Turn (fun k => k = g) W w1 ∧ w1.heap[g]? = some (.cells cur' t2 (0, 0)) ∧ cur'.size = cur.size ∧ cur'.toList = nums kd (ys.take n) ++ cur.toList.drop (min m n) := by
  have hR := Kd.reads_of_C (enc := Value.int kd) (d := (0 : Int)) HR
  have hm : ys.length = m := hR.1
  rcases Nat.eq_zero_or_pos (min m n) with h0 | hp
  · refine ⟨W, cur, ?_, Turn.refl _ _, hb, rfl, ?_⟩
    · rw [h0]; exact run_copy_none W t t' ty e _ A n cap m c ht hinfo h0
    · have : ys.take n = [] := by rw [List.take_eq_nil_iff]; rcases Nat.eq_zero_or_pos n with h | h; exact .inl h; exact .inr (List.eq_nil_of_length_eq_zero (by omega))
      rw [h0, this]; simp [nums]
  · obtain ⟨ad, rfl, hc⟩ := hR.2.2 (by omega)
    have hlen : (nums kd (ys.take n)).length = min m n := by rw [nums_length, List.length_take, hm, Nat.min_comm]
    have hsrc : ∀ j u, (nums kd (ys.take n))[j]? = some u → W.cell? (ad.add j) = some u := by
      intro j u hu
      have hj : j < (nums kd (ys.take n)).length := by
        rcases Nat.lt_or_ge j (nums kd (ys.take n)).length with h | h
        · exact h
        · rw [List.getElem?_eq_none h] at hu; cases hu
      rw [hlen] at hj
      rw [hc j (by omega), ← hu]
      simp [nums, List.getElem?_take, show j < n by omega, List.getElem?_eq_getElem (show j < ys.length by omega), List.getD_eq_getElem?_getD]
    have hr := run_copy_cells (P := P) W t t' ty e g 0 n cap ad m c (nums kd (ys.take n)) ht hinfo (by rw [hlen]) hsrc
      (fun j hj => by rw [cell_of_row W g _ cur t2 (0, 0) hb, Array.getElem?_eq_getElem (by rw [hlen] at hj; omega)]; rfl) (fun j _ => blk_frozen hb _) (by intro u hu; simp only [nums, List.mem_map] at hu; obtain ⟨q, _, rfl⟩ := hu; rfl)
    obtain ⟨cur', h3, h4, h5⟩ := setCells_row (nums kd (ys.take n)) 0 W cur hb (by rw [hlen]; omega)
    obtain ⟨s1, s2, s3, s4⟩ := setCells_same g (nums kd (ys.take n)) 0 W
    refine ⟨_, cur', by rw [hr, hlen]; rfl, ⟨s1, s2, s3, by rw [s4]; exact Nat.le_refl _, fun k _ hk => setCells_far _ _ k hk⟩, h3, h4, ?_⟩
    rw [h5, hlen]; simp

theorem size5 : (Tryd.prog.info? 5).map (·.size) = some 1 := by kernel_rfl
set_option maxRecDepth 100000 in
set_option maxHeartbeats 1600000 in
theorem readAt_any (g gb : Nat) (A : Option Addr) (c n cap : Nat) (cur : Array Value) (xs : List Int) (N off : Nat) (i p : Int) (W : World) (hN : xs.length = N) (hb : W.heap[g]? = some (rdr A N c i p))
    (hbuf : W.heap[gb]? = some (.cells cur 5 (0, 0))) (hn : n ≤ cur.size) (hn2 : n ≤ 140737488355328)
    (hi : off < N) (hin : off + n ≤ N) (hc : N ≤ c) (hl : N ≤ 140737488355328) (hr : Kd.C (Kd.int .u8) W A N xs) :
    Calls Tryd.prog 78 #[.pointer (some ⟨g, 0, none⟩), .slice (some ⟨gb, 0, none⟩) n cap, .int .i64 off] W fun e w' => e = .returned (.tuple #[.int .i64 n, .nilIface]) ∧
      Turn (fun k => k = gb) W w' ∧ ∃ cur', w'.heap[gb]? = some (.cells cur' 5 (0, 0)) ∧ cur'.size = cur.size ∧ cur'.toList.take n = nums .u8 ((xs.drop off).take n) := by
  have hne : gb ≠ g := blk_ne hbuf hb (by decide)
  have c0 : W.cell? ⟨g, 0, none⟩ = some (.slice A N c) := (blk_cell hb 0).trans rfl
  obtain ⟨A3, hcut, hct⟩ := drop_u8 A c N xs off hN (by omega) hc
  obtain ⟨w3, cur', hcopy, kT3, kG3, kS3, kL3⟩ := run_copy_blk (P := Tryd.prog) 26 26 3 5 .u8 Tryd.underlying26 size5 gb n cap cur 5 A3 (N - off) (c - off) (xs.drop off) hbuf hn (hct W hr)
  have hmn : min (N - off) n = n := by omega
  rw [hmn] at hcopy kL3
  have HT3 := Aside0.mk kT3
  have HG3 := Aside0.mk kG3
  have HS3 := Aside0.mk kS3
  have HL3 := Aside0.mk kL3
  have HN := Aside0.mk hN
  have hi' : decide ((N : Int) ≤ (off : Int)) = false := by simpa using hi
  clear hb hbuf hr hct hN kT3 kG3 kS3 kL3 hmn
  go_enter Tryd.func78, Tryd.ntmps78
  go_wp2
  go_ret2
  refine ⟨rfl, HT3.out, cur', HG3.out, HS3.out, ?_⟩
  rw [HL3.out, List.take_append_of_le_length (by rw [nums_length, List.length_take, List.length_drop, HN.out]; omega), List.take_of_length_le (by rw [nums_length, List.length_take]; omega)]
end Go.Proofs.YtnodmobblamlgaaDoor
/- tiff's safeReadAt. -/
namespace Go.Proofs.YtnodmobblamlgaaDoor
open Go.RowKit Go.Proofs.YtnodmobblamlgaaDoorW.PrintWords Go.Proofs.YtnodmobblamlgaaDoorW.PrintLast Go.Proofs.YtnodmobblamlgaaDoorW.PrintMore
set_option linter.unusedVariables false
set_option linter.unusedSimpArgs false

theorem nilAhead_readAt (a : Addr) (w : World) : (nilAhead 312 71 (.pointer (some a)) "ReadAt").run Tryd.prog w = .ok (some false) w := by kernel_rfl
theorem method_readAt (a : Addr) (w : World) : (method 312 71 (.pointer (some a)) "ReadAt").run Tryd.prog w = .ok (78, .pointer (some a)) w := by kernel_rfl

set_option maxRecDepth 100000 in
set_option maxHeartbeats 1600000 in
theorem safe_any (g : Nat) (A : Option Addr) (c n : Nat) (xs : List Int) (N off : Nat) (i p : Int) (W : World) (hN : xs.length = N) (hb : W.heap[g]? = some (rdr A N c i p))
    (hn1 : 1 ≤ n) (hn2 : n ≤ 100000) (hin : off + n ≤ N) (hc : N ≤ c) (hl : N ≤ 13000000) (hr : Kd.C (Kd.int .u8) W A N xs) :
    Calls Tryd.prog 42 #[.iface 71 (.pointer (some ⟨g, 0, none⟩)), .int .u64 n, .int .i64 off] W fun e w' => ∃ gb, e = .returned (.tuple #[.slice (some ⟨gb, 0, none⟩) n n, .nilIface]) ∧
      Kd.C (Kd.int .u8) w' (some ⟨gb, 0, none⟩) n ((xs.drop off).take n) ∧ Below W.heap.size W w' := by
  have hmk := run_make_row' (P := Tryd.prog) 26 5 (.int .u8 0) 1 Tryd.underlying26 info5x rfl .u64 .u64 n (by omega) (by omega)
  have hlt : (n : Int) < 10485760 := by omega
  have hge : ¬ ((n : Int) < 0) := by omega
  have nA := nilAhead_readAt
  have mR := method_readAt
  have hsz : (madeCells #[Value.int .u8 0] n).size = n := by simp [size_madeCells]
  have HRA := Aside0.mk (readAt_any g W.heap.size A c n n (madeCells #[Value.int .u8 0] n) xs N off i p (W.alloc (.cells (madeCells #[Value.int .u8 0] n) 5)) hN (blk_alloc hb _) (by simp only [World.alloc, Array.getElem?_push_size]) (by omega) (by omega) (by omega) hin hc (by omega) (Kd.C_below hr ((Below.refl _ _).alloc (Nat.le_refl _) _)))
  have HL := Aside0.mk (show ((xs.drop off).take n).length = n by rw [List.length_take, List.length_drop]; omega)
  have HA := Aside0.mk ((Below.refl W.heap.size W).alloc (Nat.le_refl _) (.cells (madeCells #[Value.int .u8 0] n) 5))
  clear hb hr hN hsz
  go_enter Tryd.func42, Tryd.ntmps42
  go_wp2_with (go_at_call 78; refine HRA.out.mono ?_; rintro e w1 ⟨rfl, k1⟩; have K1 := Aside0.mk k1; clear k1)
  go_ret2
  obtain ⟨k1, cur', k2, k3, k4⟩ := K1.out
  exact ⟨_, rfl, C_of_blk k2 HL.out (by omega) k4, k1.below HA.out HA.out.size (fun k hk => by omega)⟩
end Go.Proofs.YtnodmobblamlgaaDoor
/- tiff's ifdUint: the numbers of a row of the directory. -/
namespace Go.Proofs.YtnodmobblamlgaaDoor
open Go.RowKit Go.Proofs.YtnodmobblamlgaaDoorW.PrintWords Go.Proofs.YtnodmobblamlgaaDoorW.PrintLast Go.Proofs.YtnodmobblamlgaaDoorW.PrintMore
set_option linter.unusedVariables false
set_option linter.unusedSimpArgs false

/-- b[i:j], the numbers of whatever kinds. -/
theorem cutk_u8 (A : Option Addr) (c n : Nat) (xs : List Int) (a b : Nat) (hl : xs.length = n) (hab : a ≤ b) (hb : b ≤ n) (hc : n ≤ c) (kl kh : IntKind) (ai bi : Int) (hai : ai = a) (hbi : bi = b) :
    ∃ A' : Option Addr, (∀ W : World, (Instr.slice 26 (.slice A n c) (some (.int kl ai)) (some (.int kh bi)) none).run Tryd.prog W = .ok (.slice A' (b - a) (c - a)) W) ∧
      (∀ w, Kd.C (Kd.int .u8) w A n xs → Kd.C (Kd.int .u8) w A' (b - a) ((xs.take b).drop a)) := by
  subst hl hai hbi
  obtain ⟨i0, hi0, hsz0⟩ := i5'
  obtain ⟨A', h1, h2, h3⟩ := print_mid_of (P := Tryd.prog) (Value.int .u8) (0 : Int) 26 5 kl kh Tryd.underlying26 hi0 hsz0 A c xs (a : Int) (b : Int) (by omega) (by omega) (by omega) hc
  have hl : ((xs.take b).drop a).length = b - a := by rw [List.length_drop, List.length_take]; omega
  simp only [Int.toNat_natCast, hl] at h1 h2
  exact ⟨A', h1, fun w h => Kd.C_of_reads (h1 := fun _ => rfl) (h2 w (Kd.reads_of_C (h1 := fun _ => rfl) h))⟩
/-- A piece of a row that holds a number. -/
theorem row_cut (big : Bool) (n a b : Nat) (xs : List Int) (q m : Nat) (v : Int) (P : Option Addr) (cap : Nat) (hat : AtN big n xs (q + a) v) (hb : b = a + n) (hm : b ≤ m) (hq : q + m ≤ xs.length) (hc : m ≤ cap) (kl kh : IntKind) (ai bi : Int) (hai : ai = a) (hbi : bi = b) :
    ∃ A' : Option Addr, (∀ W : World, (Instr.slice 26 (.slice P m cap) (some (.int kl ai)) (some (.int kh bi)) none).run Tryd.prog W = .ok (.slice A' n (cap - a)) W) ∧
      (∀ w, Kd.C (Kd.int .u8) w P m ((xs.drop q).take m) → Kd.C (Kd.int .u8) w A' n (nb big n v)) := by
  have hl : ((xs.drop q).take m).length = m := by rw [List.length_take, List.length_drop]; omega
  obtain ⟨A', h1, h2⟩ := cutk_u8 P cap m ((xs.drop q).take m) a b hl (by omega) hm hc kl kh ai bi hai hbi
  have e : b - a = n := by omega
  rw [e] at h1
  refine ⟨A', h1, fun w h => ?_⟩
  have h3 := h2 w h
  rw [e] at h3
  have e2 : (((xs.drop q).take m).take b).drop a = nb big n v := by
    rw [List.take_take, Nat.min_eq_left hm, List.drop_take, List.drop_drop, e]
    exact hat.2
  rwa [e2] at h3
theorem cell_below {W w : World} (hb : Below W.heap.size W w) {a : Addr} {v : Value} (h : W.cell? a = some v) : w.cell? a = some v :=
  (World.cell?_of_block (hb.block _ (World.block_lt_of_cell? W _ h))).trans h
theorem blk_below {W w : World} (hb : Below W.heap.size W w) {g : Nat} {o : Obj} (h : W.heap[g]? = some o) : w.heap[g]? = some o := (hb.block _ (blk_lt h)).trans h
/-- What the decoder reads of its surroundings. -/
structure DW (W : World) (d g : Nat) (T : TypeId) (A : Option Addr) (c N : Nat) (xs : List Int) : Prop where
  c0 : W.cell? ⟨d, 0, none⟩ = some (.iface 71 (.pointer (some ⟨g, 0, none⟩)))
  c1 : W.cell? ⟨d, 1, none⟩ = some (.iface T (.agg #[]))
  rd : W.heap[g]? = some (rdr A N c 0 (-1))
  file : Kd.C (Kd.int .u8) W A N xs
  l3 : W.cell? ⟨5, 3, none⟩ = some (.int .u32 2)
  l4 : W.cell? ⟨5, 4, none⟩ = some (.int .u32 4)
theorem DW.below {W w : World} {d g : Nat} {T : TypeId} {A : Option Addr} {c N : Nat} {xs : List Int} (h : DW W d g T A c N xs) (hb : Below W.heap.size W w) : DW w d g T A c N xs :=
  ⟨cell_below hb h.c0, cell_below hb h.c1, blk_below hb h.rd, Kd.C_below h.file hb, cell_below hb h.l3, cell_below hb h.l4⟩
theorem nilAhead_16l (w : World) : (nilAhead 312 118 (.agg #[]) "Uint16").run Tryd.prog w = .ok (some false) w := by kernel_rfl
theorem method_16l (w : World) : (method 312 118 (.agg #[]) "Uint16").run Tryd.prog w = .ok (88, .agg #[]) w := by kernel_rfl
theorem nilAhead_32l (w : World) : (nilAhead 312 118 (.agg #[]) "Uint32").run Tryd.prog w = .ok (some false) w := by kernel_rfl
theorem method_32l (w : World) : (method 312 118 (.agg #[]) "Uint32").run Tryd.prog w = .ok (89, .agg #[]) w := by kernel_rfl
theorem nilAhead_16b (w : World) : (nilAhead 312 119 (.agg #[]) "Uint16").run Tryd.prog w = .ok (some false) w := by kernel_rfl
theorem method_16b (w : World) : (method 312 119 (.agg #[]) "Uint16").run Tryd.prog w = .ok (96, .agg #[]) w := by kernel_rfl
theorem nilAhead_32b (w : World) : (nilAhead 312 119 (.agg #[]) "Uint32").run Tryd.prog w = .ok (some false) w := by kernel_rfl
theorem method_32b (w : World) : (method 312 119 (.agg #[]) "Uint32").run Tryd.prog w = .ok (97, .agg #[]) w := by kernel_rfl
theorem info39 : (Tryd.prog.info? 39).map (fun i => (i.zero, i.size, i.bytes)) = some (some (.int .u64 0), 1, 8) := by kernel_rfl
theorem safe_lit (g : Nat) (A : Option Addr) (c n : Nat) (p2 : Int) (p3 : Int) (xs : List Int) (N off : Nat) (W : World) (hN : xs.length = N) (hp2 : p2 = n) (hp3 : p3 = off) (hn1 : 1 ≤ n) (hn2 : n ≤ 100000) (hin : off + n ≤ N) (hc : N ≤ c) (hl : N ≤ 13000000) (hb : W.heap[g]? = some (rdr A N c 0 (-1))) (hr : Kd.C (Kd.int .u8) W A N xs) :
    ∀ w, Below W.heap.size W w → Calls Tryd.prog 42 #[.iface 71 (.pointer (some ⟨g, 0, none⟩)), .int .u64 p2, .int .i64 p3] w fun e w' => ∃ gb, e = .returned (.tuple #[.slice (some ⟨gb, 0, none⟩) n n, .nilIface]) ∧
      Kd.C (Kd.int .u8) w' (some ⟨gb, 0, none⟩) n ((xs.drop off).take n) ∧ Below w.heap.size w w' := by
  subst hp2 hp3
  exact fun w hw => safe_any g A c n xs N off 0 (-1) w hN (blk_below hw hb) hn1 hn2 hin hc hl (Kd.C_below hr hw)
end Go.Proofs.YtnodmobblamlgaaDoor
