/- Contracts of the reader's methods at the dump of this seat. -/
import Derived.Test.YtloflgkidclhoaaDoorWalkA
import Derived.Test.YtloflgkidclhoaaDoorBase
import Derived.StillTailTactics
namespace Go.Proofs.YtloflgkidclhoaaDoor
open Go.RowKit Go.Proofs.YtloflgkidclhoaaDoorW.PrintWords Go.Proofs.YtloflgkidclhoaaDoorW.PrintLast Go.Proofs.YtloflgkidclhoaaDoorW.PrintMore
set_option linter.unusedVariables false
set_option linter.unusedSimpArgs false

/-- The cells of a bytes.Reader. -/
def rdr (A : Option Addr) (n c : Nat) (i p : Int) : Obj := .cells #[.slice A n c, .int .i64 i, .int .i64 p] 50 (0, 0)

set_option maxHeartbeats 800000 in
theorem readByte_end (g : Nat) (A : Option Addr) (n c : Nat) (i p : Int) (eof : Value) (W : World) (hb : W.heap[g]? = some (rdr A n c i p))
    (hi : (n : Int) ≤ i) (hv : W.cell? ⟨0, 0, none⟩ = some eof) (hg : g ≠ 0) :
    Calls Tryd.prog 35 #[.pointer (some ⟨g, 0, none⟩)] W fun e w' => e = .returned (.tuple #[.int .u8 0, eof]) ∧ Turn (fun k => k = g) W w' ∧ w'.heap[g]? = some (rdr A n c i (-1)) := by
  have c0 : W.cell? ⟨g, 0, none⟩ = some (.slice A n c) := (blk_cell hb 0).trans rfl
  have c1 : W.cell? ⟨g, 1, none⟩ = some (.int .i64 i) := (blk_cell hb 1).trans rfl
  have c2 : W.cell? ⟨g, 2, none⟩ = some (.int .i64 p) := (blk_cell hb 2).trans rfl
  have f2 : W.frozen? ⟨g, 2, none⟩ = false := blk_frozen hb 2
  have hP := Aside0.mk (Turn.set hb 2 (.int .i64 (-1)))
  clear hb
  go_enter Tryd.func35, Tryd.ntmps35
  go_wp2
  obtain ⟨W1, hW1⟩ : ∃ W1, W1 = W.setCell ⟨g, 2, none⟩ (.int .i64 (-1)) := ⟨_, rfl⟩
  rw [← hW1] at hP ⊢
  have d0 : W1.cell? ⟨g, 0, none⟩ = some (.slice A n c) := (blk_cell hP.out.2 0).trans rfl
  have d1 : W1.cell? ⟨g, 1, none⟩ = some (.int .i64 i) := (blk_cell hP.out.2 1).trans rfl
  have d2 : W1.cell? ⟨0, 0, none⟩ = some eof := hP.out.1.cell hv (fun h => hg h.symm)
  clear hW1 c0 c1 c2 f2 hv
  have hi' : decide ((n : Int) ≤ i) = true := by simpa using hi
  go_quiet (fail)
  go_wp2
  go_quiet (fail)
  go_wp2
  go_ret2
  exact ⟨rfl, (hP.out.1.drewN _).drewN _, hP.out.2⟩

set_option maxHeartbeats 800000 in
theorem readByte_some (g : Nat) (A : Option Addr) (c : Nat) (xs : List Int) (i : Nat) (p : Int) (W : World) (hb : W.heap[g]? = some (rdr A xs.length c i p))
    (hi : i < xs.length) (hl : xs.length ≤ 140737488355328) (hr : ∀ W', Turn (fun k => k = g) W W' → Kd.C (Kd.int .u8) W' A xs.length xs) :
    Calls Tryd.prog 35 #[.pointer (some ⟨g, 0, none⟩)] W fun e w' => e = .returned (.tuple #[.int .u8 (rd xs i), .nilIface]) ∧ Turn (fun k => k = g) W w' ∧ w'.heap[g]? = some (rdr A xs.length c (i + 1) (-1)) := by
  have c0 : W.cell? ⟨g, 0, none⟩ = some (.slice A xs.length c) := (blk_cell hb 0).trans rfl
  have c1 : W.cell? ⟨g, 1, none⟩ = some (.int .i64 i) := (blk_cell hb 1).trans rfl
  have c2 : W.cell? ⟨g, 2, none⟩ = some (.int .i64 p) := (blk_cell hb 2).trans rfl
  have f2 : W.frozen? ⟨g, 2, none⟩ = false := blk_frozen hb 2
  have hP := Aside0.mk (Turn.set hb 2 (.int .i64 (-1)))
  obtain ⟨ad, rfl, hx⟩ := Kd.at_int (hr _ hP.out.1) (i : Int) (by omega) (by omega)
  clear hb hr
  go_enter Tryd.func35, Tryd.ntmps35
  go_wp2
  obtain ⟨W1, hW1⟩ : ∃ W1, W1 = W.setCell ⟨g, 2, none⟩ (.int .i64 (-1)) := ⟨_, rfl⟩
  rw [← hW1] at hP ⊢
  have d0 : W1.cell? ⟨g, 0, none⟩ = some (.slice (some ad) xs.length c) := (blk_cell hP.out.2 0).trans rfl
  have d1 : W1.cell? ⟨g, 1, none⟩ = some (.int .i64 i) := (blk_cell hP.out.2 1).trans rfl
  have g1 : W1.frozen? ⟨g, 1, none⟩ = false := blk_frozen hP.out.2 1
  have d2 : W1.cell? (ad.add i) = some (.int .u8 (rd xs i)) := by rw [hW1]; simpa using hx
  clear hW1 c0 c1 c2 f2 hx
  have hi' : decide ((xs.length : Int) ≤ (i : Int)) = false := by simpa using hi
  have b0 : (0 : Int) ≤ (i : Int) := by omega
  have b1 : (i : Int) < (xs.length : Int) := by omega
  go_quiet (fail)
  go_wp2
  go_quiet (fail)
  go_wp2
  go_ret2
  exact ⟨rfl, (hP.out.1.drewN _).setCell (.inl rfl) _, (Turn.set (W := W1.drewN _) hP.out.2 1 _).2⟩

set_option maxHeartbeats 800000 in
theorem read_end (g : Nat) (A B : Option Addr) (n c m d : Nat) (i p : Int) (eof : Value) (W : World) (hb : W.heap[g]? = some (rdr A n c i p))
    (hi : (n : Int) ≤ i) (hv : W.cell? ⟨0, 0, none⟩ = some eof) :
    Calls Tryd.prog 34 #[.pointer (some ⟨g, 0, none⟩), .slice B m d] W fun e w' => e = .returned (.tuple #[.int .i64 0, eof]) ∧ Turn (fun k => k = g) W w' ∧ w'.heap[g]? = some (rdr A n c i p) := by
  have c0 : W.cell? ⟨g, 0, none⟩ = some (.slice A n c) := (blk_cell hb 0).trans rfl
  have c1 : W.cell? ⟨g, 1, none⟩ = some (.int .i64 i) := (blk_cell hb 1).trans rfl
  have HB := Aside0.mk hb
  clear hb
  have hi' : decide ((n : Int) ≤ i) = true := by simpa using hi
  go_enter Tryd.func34, Tryd.ntmps34
  go_wp2
  go_quiet (fail)
  go_wp2
  go_quiet (fail)
  go_wp2
  go_ret2
  exact ⟨rfl, ((Turn.refl _ _).drewN _).drewN _, HB.out⟩

theorem size5 : (Tryd.prog.info? 5).map (·.size) = some 1 := by kernel_rfl
set_option maxHeartbeats 1600000 in
theorem read_some (g gb : Nat) (A : Option Addr) (c n cap : Nat) (cur : Array Value) (xs : List Int) (i : Nat) (p : Int) (W : World) (hb : W.heap[g]? = some (rdr A xs.length c i p))
    (hbuf : W.heap[gb]? = some (.cells cur 5 (0, 0))) (hn : n ≤ cur.size)
    (hi : i < xs.length) (hc : xs.length ≤ c) (hl : xs.length ≤ 140737488355328) (hr : ∀ W', Turn (fun k => k = g) W W' → Kd.C (Kd.int .u8) W' A xs.length xs) :
    Calls Tryd.prog 34 #[.pointer (some ⟨g, 0, none⟩), .slice (some ⟨gb, 0, none⟩) n cap] W fun e w' => e = .returned (.tuple #[.int .i64 ((min (xs.length - i) n : Nat) : Int), .nilIface]) ∧
      Turn (fun k => k = g ∨ k = gb) W w' ∧ w'.heap[g]? = some (rdr A xs.length c ((i + min (xs.length - i) n : Nat) : Int) (-1)) ∧
      ∃ cur', w'.heap[gb]? = some (.cells cur' 5 (0, 0)) ∧ cur'.size = cur.size ∧ cur'.toList = nums .u8 ((xs.drop i).take n) ++ cur.toList.drop (min (xs.length - i) n) := by
  have hne : gb ≠ g := blk_ne hbuf hb (by decide)
  have c0 : W.cell? ⟨g, 0, none⟩ = some (.slice A xs.length c) := (blk_cell hb 0).trans rfl
  have c1 : W.cell? ⟨g, 1, none⟩ = some (.int .i64 i) := (blk_cell hb 1).trans rfl
  have c2 : W.cell? ⟨g, 2, none⟩ = some (.int .i64 p) := (blk_cell hb 2).trans rfl
  have f2 : W.frozen? ⟨g, 2, none⟩ = false := blk_frozen hb 2
  have HB := Aside0.mk hb
  have HBUF := Aside0.mk hbuf
  have HR := Aside0.mk hr
  obtain ⟨i0, hi0, _, hsz, _⟩ := info_parts info5
  obtain ⟨A', hcut, hA', hC'⟩ := print_drop_of (P := Tryd.prog) (Value.int .u8) (0 : Int) 22 5 .i64 Tryd.underlying22 hi0 hsz A c xs (i : Int) (by omega) (by omega) hc
  have HR' := Aside0.mk hA'
  have hdl : (xs.drop (i : Int).toNat).length = xs.length - i := by simp
  rw [hdl] at hcut HR'
  have hi' : decide ((xs.length : Int) ≤ (i : Int)) = false := by simpa using hi
  have hd0 : (xs.drop (i : Int).toNat) = xs.drop i := by simp
  rw [hd0] at HR'
  clear hb hbuf hr hA' hC' hi0 hsz hdl hd0
  go_enter Tryd.func34, Tryd.ntmps34
  go_wp2
  go_quiet (fail)
  go_wp2
  obtain ⟨W1, hW1⟩ : ∃ W1, W1 = (W.drewN nq).setCell ⟨g, 2, none⟩ (.int .i64 (-1)) := ⟨_, rfl⟩
  have hT1 := Aside0.mk (((Turn.refl (fun k => k = g) W).drewN nq).setCell (p := ⟨g, 2, none⟩) (.inl rfl) (.int .i64 (-1)))
  have hG1 := Aside0.mk (Turn.set (W := W.drewN nq) HB.out 2 (.int .i64 (-1))).2
  rw [← hW1] at hT1 hG1 ⊢
  have d0 : W1.cell? ⟨g, 0, none⟩ = some (.slice A xs.length c) := (blk_cell hG1.out 0).trans rfl
  have d1 : W1.cell? ⟨g, 1, none⟩ = some (.int .i64 i) := (blk_cell hG1.out 1).trans rfl
  clear hW1 c0 c1 c2 f2
  go_still_tail 10, (by kernel_rfl)
  change wpList _ _ _ _ _ W1.drew
  have hT2 := Aside0.mk hT1.out.drew
  have hG2 := Aside0.mk (show W1.drew.heap[g]? = some (rdr A xs.length c i (-1)) from hG1.out)
  clear hT1 hG1 d0 d1
  generalize W1.drew = W2 at hT2 hG2 ⊢
  have hB2 := Aside0.mk (hT2.out.blk HBUF.out hne)
  have hR2 := Aside0.mk (Kd.C_of_reads (h1 := fun _ => rfl) (HR'.out _ (Kd.reads_of_C (HR.out _ hT2.out))))
  clear HR'
  refine wpList_copy_blk rfl (.tmp 20) (.tmp 29) 22 22 5 .u8 rfl Tryd.underlying22 size5 gb n cap cur 5 A' (xs.length - i) (c - i) (xs.drop i) rfl rfl hB2.out hn hR2.out ?_
  intro w3 cur' kT3 kG3 kS3 kL3
  have hT3 := Aside0.mk kT3
  have hG3 := Aside0.mk kG3
  have hS3 := Aside0.mk kS3
  have hX3 := Aside0.mk (hT3.out.blk hG2.out (fun h => hne h.symm))
  have e0 : w3.cell? ⟨g, 0, none⟩ = some (.slice A xs.length c) := (blk_cell hX3.out 0).trans rfl
  have e1 : w3.cell? ⟨g, 1, none⟩ = some (.int .i64 i) := (blk_cell hX3.out 1).trans rfl
  have f1 : w3.frozen? ⟨g, 1, none⟩ = false := blk_frozen hX3.out 1
  have hmn : (min (xs.length - i) n : Nat) ≤ 140737488355328 := by omega
  obtain ⟨m, hm⟩ : ∃ m, m = min (xs.length - i) n := ⟨_, rfl⟩
  rw [← hm] at hmn kL3 ⊢
  have hL3 := Aside0.mk kL3
  have HM := Aside0.mk hm
  clear hm kT3 kG3 kS3 kL3
  go_wp2
  go_ret2
  rw [← HM.out]
  refine ⟨rfl, ((hT2.out.mono (fun k h => .inl h)).trans hT3.out (fun k h => .inl (.inr h))).setCell (.inl (.inl rfl)) _, ?_, cur', (Below.heap_setCell _ _ _ _ hne).trans hG3.out, hS3.out, hL3.out⟩
  have := (Turn.set hX3.out 1 (.int .i64 ((i : Int) + (m : Int)))).2
  rw [Int.natCast_add]
  exact this
end Go.Proofs.YtloflgkidclhoaaDoor
