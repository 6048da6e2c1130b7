/- The reader under tiff's decoder: slices.Clone, bytes.NewReader, newReaderAt, ReadAt, safeReadAt. -/
import Derived.Test.YtnodmobblamlgaaDoorKReads
import Derived.Test.YtnodmobblamlgaaDoorKMapI
import Derived.Test.YtnodmobblamlgaaDoorKCoded
import Derived.StillTailTactics
import Derived.Deep.RegionWith
import Derived.Stop.Asserts
namespace Go.Proofs.YtnodmobblamlgaaDoor
open Go.RowKit Go.Proofs.YtnodmobblamlgaaDoorW.PrintWords Go.Proofs.YtnodmobblamlgaaDoorW.PrintLast Go.Proofs.YtnodmobblamlgaaDoorW.PrintMore
set_option linter.unusedVariables false
set_option linter.unusedSimpArgs false

/-- The cells of a bytes.Reader. -/
def rdr (A : Option Addr) (n c : Nat) (i p : Int) : Obj := .cells #[.slice A n c, .int .i64 i, .int .i64 p] 93 (0, 0)

theorem info5x : (Tryd.prog.info? 5).map (fun i => (i.zero, i.size, i.bytes)) = some (some (.int .u8 0), 1, 1) := by kernel_rfl
set_option maxHeartbeats 800000 in
theorem clone_some (ad : Addr) (c0 : Nat) (l0 : List Int) (w : World) (hr0 : Kd.C (Kd.int .u8) w (some ad) l0.length l0) (hc0 : l0.length ≤ c0) (hl : l0.length ≤ 140737488355328) :
    Calls Tryd.prog 22 #[.slice (some ad) l0.length c0] w fun e w' => ∃ v : Value, e = .returned v ∧ Kd.R (Kd.int .u8) 5 w' w.heap.size (fun _ => True) v l0 ∧ Below w.heap.size w w' := by
  have q26 : ∀ (w : World) (a : Option Addr) (n c n' c' : Nat), (binOp .eql 26 (.slice a n c) (.slice none n' c')).run Tryd.prog w = .ok (.bool a.isNone) w := fun w a n c n' c' => Lib.run_eql_slice_nil w _ _ a n c n' c' Tryd.underlying26
  have HR0 := Aside0.mk hr0
  clear hr0
  have HL := Aside0.mk hl
  clear hl
  go_enter Tryd.func22, Tryd.ntmps22
  go_wp2_with (first | ((with_reducible refine gate_dst (N := 5) rfl ?_); refine Kd.R_lit (Kd.int .u8) _ 5 ?hg (N := 5) ?hd (xs := ([] : List Int)) (inner := []) (ok := fun _ => True) (okp := fun _ => True) ?hr ?hp (fun _ hk => hk) trivial (Below.refl w.heap.size w) (Nat.le_refl _) (by simp) ?_; (case hd => rfl); (case hg => rfl); (case hr => first | (go_simp; done) | (go_simp; rfl)); (case hp => exact (Reps.none _ _)); intro v5 w2 ho3 hb hg_ hnew_; have HO := Aside0.mk ho3; have HB := Aside0.mk hb; clear hg_ hnew_ ho3 hb) | ((with_reducible refine gate_builtin (b := .append) (xs := #[.tmp 5, .tmp 6]) rfl ?_); at_builtin; refine Kd.R_append_rows (Kd.int .u8) (w0 := w) w.heap.size rfl (.tmp 5) (.tmp 6) 26 5 (.int .u8 0) 1 rfl Tryd.underlying26 info5x rfl (by decide) (by omega) v5 [] l0 _ _ _ (fun _ => True) (fun _ => False) rfl rfl HO.out (Kd.C_below HR0.out HB.out) (fun _ _ h => h) (fun _ h => h.elim) (fun _ _ => trivial) HB.out HB.out.size (by have := HL.out; simp; omega) ?_; intro v7 w3 ho hb hg hat; have HO2 := Aside0.mk ho; have HB2 := Aside0.mk hb; clear ho hb hg hat))
  go_ret
  exact ⟨_, rfl, HO2.out, HB2.out⟩

set_option maxHeartbeats 800000 in
theorem newReader_any (A : Option Addr) (n c : Nat) (w : World) : Calls Tryd.prog 24 #[.slice A n c] w fun e w' => e = .returned (.pointer (some ⟨w.heap.size, 0, none⟩)) ∧ w' = w.alloc (rdr A n c 0 (-1)) := by
  go_enter Tryd.func24, Tryd.ntmps24
  go_wp2
  go_ret
  exact ⟨rfl, rfl⟩

set_option maxHeartbeats 800000 in
theorem readerAt_any (a : Addr) (w : World) : Calls Tryd.prog 41 #[.iface 71 (.pointer (some a))] w fun e w' => e = .returned (.iface 71 (.pointer (some a))) ∧ w' = w := by
  have hta := run_typeAssert_hasB (P := Tryd.prog) Tryd.underlying83 (t := 71) (by kernel_rfl) (.pointer (some a)) 91 w
  go_enter Tryd.func41, Tryd.ntmps41
  go_wp2
  go_ret
  exact ⟨rfl, rfl⟩

/-- copy into the first n cells of a block that is known, as a fact of the operation. -/
theorem run_copy_blk {P : Program} {W : World} (t t' ty e : TypeId) (kd : IntKind) (ht : P.underlying t = some (.slice e)) (hinfo : (P.info? e).map (·.size) = some 1)
    (g n cap : Nat) (cur : Array Value) (t2 : TypeId) (A : Option Addr) (m c : Nat) (ys : List Int)
    (hb : W.heap[g]? = some (.cells cur t2 (0, 0))) (hn : n ≤ cur.size) (HR : Kd.C (Kd.int kd) W A m ys) :
    ∃ w1 cur', (Builtin.copy_ #[t, t'] ty #[.slice (some ⟨g, 0, none⟩) n cap, .slice A m c]).run P W = .ok (.int .i64 ((min m n : Nat) : Int)) w1 ∧ Turn (fun k => k = g) W w1 ∧ w1.heap[g]? = some (.cells cur' t2 (0, 0)) ∧ cur'.size = cur.size ∧ cur'.toList = nums kd (ys.take n) ++ cur.toList.drop (min m n) := by
  have hR := Kd.reads_of_C (enc := Value.int kd) (d := (0 : Int)) HR
  have hm : ys.length = m := hR.1
  rcases Nat.eq_zero_or_pos (min m n) with h0 | hp
  · refine ⟨W, cur, ?_, Turn.refl _ _, hb, rfl, ?_⟩
    · rw [h0]; exact run_copy_none W t t' ty e _ A n cap m c ht hinfo h0
    · have : ys.take n = [] := by rw [List.take_eq_nil_iff]; rcases Nat.eq_zero_or_pos n with h | h; exact .inl h; exact .inr (List.eq_nil_of_length_eq_zero (by omega))
      rw [h0, this]; simp [nums]
  · obtain ⟨ad, rfl, hc⟩ := hR.2.2 (by omega)
    have hlen : (nums kd (ys.take n)).length = min m n := by rw [nums_length, List.length_take, hm, Nat.min_comm]
    have hsrc : ∀ j u, (nums kd (ys.take n))[j]? = some u → W.cell? (ad.add j) = some u := by
      intro j u hu
      have hj : j < (nums kd (ys.take n)).length := by
        rcases Nat.lt_or_ge j (nums kd (ys.take n)).length with h | h
        · exact h
        · rw [List.getElem?_eq_none h] at hu; cases hu
      rw [hlen] at hj
      rw [hc j (by omega), ← hu]
      simp [nums, List.getElem?_take, show j < n by omega, List.getElem?_eq_getElem (show j < ys.length by omega), List.getD_eq_getElem?_getD]
    have hr := run_copy_cells (P := P) W t t' ty e g 0 n cap ad m c (nums kd (ys.take n)) ht hinfo (by rw [hlen]) hsrc
      (fun j hj => by rw [cell_of_row W g _ cur t2 (0, 0) hb, Array.getElem?_eq_getElem (by rw [hlen] at hj; omega)]; rfl) (fun j _ => blk_frozen hb _) (by intro u hu; simp only [nums, List.mem_map] at hu; obtain ⟨q, _, rfl⟩ := hu; rfl)
    obtain ⟨cur', h3, h4, h5⟩ := setCells_row (nums kd (ys.take n)) 0 W cur hb (by rw [hlen]; omega)
    obtain ⟨s1, s2, s3, s4⟩ := setCells_same g (nums kd (ys.take n)) 0 W
    refine ⟨_, cur', by rw [hr, hlen]; rfl, ⟨s1, s2, s3, by rw [s4]; exact Nat.le_refl _, fun k _ hk => setCells_far _ _ k hk⟩, h3, h4, ?_⟩
    rw [h5, hlen]; simp

theorem size5 : (Tryd.prog.info? 5).map (·.size) = some 1 := by kernel_rfl
set_option maxRecDepth 100000 in
set_option maxHeartbeats 1600000 in
theorem readAt_any (g gb : Nat) (A : Option Addr) (c n cap : Nat) (cur : Array Value) (xs : List Int) (N off : Nat) (i p : Int) (W : World) (hN : xs.length = N) (hb : W.heap[g]? = some (rdr A N c i p))
    (hbuf : W.heap[gb]? = some (.cells cur 5 (0, 0))) (hn : n ≤ cur.size) (hn2 : n ≤ 140737488355328)
    (hi : off < N) (hin : off + n ≤ N) (hc : N ≤ c) (hl : N ≤ 140737488355328) (hr : Kd.C (Kd.int .u8) W A N xs) :
    Calls Tryd.prog 78 #[.pointer (some ⟨g, 0, none⟩), .slice (some ⟨gb, 0, none⟩) n cap, .int .i64 off] W fun e w' => e = .returned (.tuple #[.int .i64 n, .nilIface]) ∧
      Turn (fun k => k = gb) W w' ∧ ∃ cur', w'.heap[gb]? = some (.cells cur' 5 (0, 0)) ∧ cur'.size = cur.size ∧ cur'.toList.take n = nums .u8 ((xs.drop off).take n) := by
  have hne : gb ≠ g := blk_ne hbuf hb (by decide)
  have c0 : W.cell? ⟨g, 0, none⟩ = some (.slice A N c) := (blk_cell hb 0).trans rfl
  obtain ⟨A3, hcut, hct⟩ := drop_u8 A c N xs off hN (by omega) hc
  obtain ⟨w3, cur', hcopy, kT3, kG3, kS3, kL3⟩ := run_copy_blk (P := Tryd.prog) 26 26 3 5 .u8 Tryd.underlying26 size5 gb n cap cur 5 A3 (N - off) (c - off) (xs.drop off) hbuf hn (hct W hr)
  have hmn : min (N - off) n = n := by omega
  rw [hmn] at hcopy kL3
  have HT3 := Aside0.mk kT3
  have HG3 := Aside0.mk kG3
  have HS3 := Aside0.mk kS3
  have HL3 := Aside0.mk kL3
  have HN := Aside0.mk hN
  have hi' : decide ((N : Int) ≤ (off : Int)) = false := by simpa using hi
  clear hb hbuf hr hct hN kT3 kG3 kS3 kL3 hmn
  go_enter Tryd.func78, Tryd.ntmps78
  go_wp2
  go_ret2
  refine ⟨rfl, HT3.out, cur', HG3.out, HS3.out, ?_⟩
  rw [HL3.out, List.take_append_of_le_length (by rw [nums_length, List.length_take, List.length_drop, HN.out]; omega), List.take_of_length_le (by rw [nums_length, List.length_take]; omega)]
end Go.Proofs.YtnodmobblamlgaaDoor
