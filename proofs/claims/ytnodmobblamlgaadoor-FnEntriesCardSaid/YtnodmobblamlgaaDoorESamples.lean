/- laws.samplesOf of no bytes: how many. -/
import Derived.Test.YtnodmobblamlgaaDoorEPacked
import Derived.Test.YtnodmobblamlgaaDoorENum
namespace Go.Proofs.YtnodmobblamlgaaDoor
open Go.RowKit Go.Proofs.YtnodmobblamlgaaDoor.PFnConfig Go.Proofs.YtnodmobblamlgaaDoorW.PrintWords Go.Proofs.YtnodmobblamlgaaDoorW.PrintLast Go.Proofs.YtnodmobblamlgaaDoorW.PrintMore
set_option linter.unusedVariables false
set_option linter.unusedSimpArgs false

theorem tiff_cells {w : World} {g t : Nat} {a0 a1 a2 a3 a4 a5 a6 a7 a8 a9 a10 : Value} (h : w.heap[g]? = some (.cells #[a0, a1, a2, a3, a4, a5, a6, a7, a8, a9, a10] t (0, 0))) :
    w.cell? ⟨g, 0, none⟩ = some a0 ∧ w.cell? ⟨g, 1, none⟩ = some a1 ∧ w.cell? ⟨g, 2, none⟩ = some a2 ∧ w.cell? ⟨g, 3, none⟩ = some a3 ∧ w.cell? ⟨g, 4, none⟩ = some a4 ∧ w.cell? ⟨g, 5, none⟩ = some a5 ∧
    w.cell? ⟨g, 6, none⟩ = some a6 ∧ w.cell? ⟨g, 7, none⟩ = some a7 ∧ w.cell? ⟨g, 8, none⟩ = some a8 ∧ w.cell? ⟨g, 9, none⟩ = some a9 ∧ w.cell? ⟨g, 10, none⟩ = some a10 :=
  ⟨(blk_cell h 0).trans rfl, (blk_cell h 1).trans rfl, (blk_cell h 2).trans rfl, (blk_cell h 3).trans rfl, (blk_cell h 4).trans rfl, (blk_cell h 5).trans rfl, (blk_cell h 6).trans rfl, (blk_cell h 7).trans rfl, (blk_cell h 8).trans rfl, (blk_cell h 9).trans rfl, (blk_cell h 10).trans rfl⟩

/-- A new row of int's, just so many. -/
def NewInts (W : World) (n : Nat) (e : Ending) (w' : World) : Prop :=
  ∃ v ys, e = .returned v ∧ Kd.R (Kd.int .i64) 3 w' W.heap.size (fun _ => True) v ys ∧ ys.length = n ∧ Below W.heap.size W w'

theorem w64mul (a b : Nat) (h : a * b ≤ 1000000) : wrap64 ((a : Int) * (b : Int)) = ((a * b : Nat) : Int) := by
  rw [← Int.natCast_mul, w64n (x := ((a * b : Nat) : Int)) (by omega) (by omega)]
/-- A row of int's that has just been made. -/
theorem R_newI (w : World) (B : Nat) (xs : List Int) (hB : B ≤ w.heap.size) (hm : xs.length ≤ 9223372036854775807) :
    Kd.R (Kd.int .i64) 3 (w.alloc (.cells (nums .i64 xs).toArray 3)) B (fun k => k = w.heap.size) (.slice (some ⟨w.heap.size, 0, none⟩) xs.length xs.length) xs := by
  refine Kd.R_of_own ?_ (fun k hk => by simpa [Value.ownBlock, eq_comm] using hk)
  have h := World.ownsRow_lit (base := B) (e := 3) (size := 1) w (nums .i64 xs).toArray xs.length hB (by simpa [maxLen] using hm) (by simp [nums])
  simpa [nums, encs] using h

set_option maxHeartbeats 3200000 in
set_option maxRecDepth 100000 in
theorem samplesOf_any (b0 : Bool) (wide high : Nat) (x3 x4 x5 x6 : Int) (b7 : Bool) (x8 x9 x10 : Int) (ch : Nat) (W : World) (hch : spec_Tiff_Channels.f b0 wide high x3 x4 x5 x6 b7 x8 x9 x10 = some (ch : Int)) (hw : wide ≤ 200) (hh : high ≤ 200) (hc4 : ch ≤ 4) (hd : 0 ≤ x5) (hd2 : x5 ≤ 16) :
    Calls Tryd.prog 7 #[.agg #[.bool b0, .int .i64 wide, .int .i64 high, .int .i64 x3, .int .i64 x4, .int .i64 x5, .int .i64 x6, .bool b7, .int .i64 x8, .int .i64 x9, .int .i64 x10], .slice none 0 0] W (NewInts W (wide * high * ch)) := by
  have hwh : wide * high ≤ 40000 := Nat.mul_le_mul hw hh
  have hwhc : wide * high * ch ≤ 160000 := Nat.mul_le_mul hwh hc4
  have HC := Aside0.mk (fun w => spec_Tiff_Channels.calls _ _ _ _ _ _ _ _ _ _ _ _ w hch)
  have g1 := heap_new_ W (.cells #[.bool b0, .int .i64 wide, .int .i64 high, .int .i64 x3, .int .i64 x4, .int .i64 x5, .int .i64 x6, .bool b7, .int .i64 x8, .int .i64 x9, .int .i64 x10] 24)
  have G2 := Aside0.mk (blk_alloc g1 (.cells #[] 3))
  have HB2 := Aside0.mk (((Below.refl W.heap.size W).alloc (Nat.le_refl _) (.cells #[.bool b0, .int .i64 wide, .int .i64 high, .int .i64 x3, .int .i64 x4, .int .i64 x5, .int .i64 x6, .bool b7, .int .i64 x8, .int .i64 x9, .int .i64 x10] 24)).alloc (by simp) (.cells #[] 3))
  have hsz1 : (W.alloc (.cells #[.bool b0, .int .i64 wide, .int .i64 high, .int .i64 x3, .int .i64 x4, .int .i64 x5, .int .i64 x6, .bool b7, .int .i64 x8, .int .i64 x9, .int .i64 x10] 24)).heap.size = W.heap.size + 1 := by simp
  have hR0 := R_newI (W.alloc (.cells #[.bool b0, .int .i64 wide, .int .i64 high, .int .i64 x3, .int .i64 x4, .int .i64 x5, .int .i64 x6, .bool b7, .int .i64 x8, .int .i64 x9, .int .i64 x10] 24)) W.heap.size [] (by simp) (by simp)
  rw [hsz1] at hR0
  have HR0 : Aside0 (Kd.R (Kd.int .i64) 3 ((W.alloc (.cells #[.bool b0, .int .i64 wide, .int .i64 high, .int .i64 x3, .int .i64 x4, .int .i64 x5, .int .i64 x6, .bool b7, .int .i64 x8, .int .i64 x9, .int .i64 x10] 24)).alloc (.cells #[] 3)) W.heap.size (fun k => k ≠ W.heap.size) (.slice (some ⟨W.heap.size + 1, 0, none⟩) 0 0) []) := ⟨Kd.R_mono hR0 (fun k hk => by omega)⟩
  clear hch g1 hR0 hsz1
  go_enter Tryd.func7, Tryd.ntmps7
  go_upto_region 2 with (fail)
  generalize (W.alloc (.cells #[.bool b0, .int .i64 wide, .int .i64 high, .int .i64 x3, .int .i64 x4, .int .i64 x5, .int .i64 x6, .bool b7, .int .i64 x8, .int .i64 x9, .int .i64 x10] 24)).alloc (.cells #[] 3) = w1 at *
  have hb1 : w1.drew.heap[W.heap.size]? = some (.cells #[.bool b0, .int .i64 wide, .int .i64 high, .int .i64 x3, .int .i64 x4, .int .i64 x5, .int .i64 x6, .bool b7, .int .i64 x8, .int .i64 x9, .int .i64 x10] 24 (0, 0)) := G2.out
  have HB3 : Aside0 (Below W.heap.size W w1.drew) := ⟨HB2.out.drew⟩
  have HR3 : Aside0 (Kd.R (Kd.int .i64) 3 w1.drew W.heap.size (fun k => k ≠ W.heap.size) (.slice (some ⟨W.heap.size + 1, 0, none⟩) 0 0) []) := ⟨Kd.R_step HR0.out (fun _ _ _ => rfl)⟩
  refine start_ (n := 9) (S := fun w' => w'.heap[W.heap.size]? = some (.cells #[.bool b0, .int .i64 wide, .int .i64 high, .int .i64 x3, .int .i64 x4, .int .i64 x5, .int .i64 x6, .bool b7, .int .i64 x8, .int .i64 x9, .int .i64 x10] 24 (0, 0))) (ds := []) #[false, false, false, false, false, false, false, false, false] (by kernel_rfl) rfl rfl hb1 (fun hHeld => ?_)
  generalize w1.drew = w2 at HB3 HR3 hHeld ⊢
  refine pure_ (i := 0) (N := some 9) (v := ?_) (a' := ?_) #[true, false, false, false, false, false, false, false, false] rfl rfl (by kernel_rfl) (fun _ _ _ h => h) (Or.inl ⟨by rfl, ?_⟩) ?_ ?_
  rotate_left
  · intro w'
    go_simp
    with_reducible rfl
  rotate_left
  · simp only [Act.put, List.setIfInBounds_toArray, List.set_cons_zero, List.set_cons_succ, i64_w, i32_w]
    rfl
  refine take_ (i := 1) (N := some 10) (v := ?_) (a' := ?_) #[true, true, false, false, false, false, false, false, false] rfl rfl (by kernel_rfl) (fun _ _ _ h => h) (Or.inl ⟨by rfl, ?_⟩) hHeld ?_ ?_
  rotate_left
  · rintro w' s2
    obtain ⟨c0, c1, c2, c3, c4, c5, c6, c7, c8, c9, c10⟩ := tiff_cells s2
    go_simp
    with_reducible rfl
  rotate_left
  · simp only [Act.put, List.setIfInBounds_toArray, List.set_cons_zero, List.set_cons_succ, i64_w, i32_w]
    rfl
  refine pure_ (i := 2) (N := some 11) (v := ?_) (a' := ?_) #[true, true, true, false, false, false, false, false, false] rfl rfl (by kernel_rfl) (fun _ _ _ h => h) (Or.inl ⟨by rfl, ?_⟩) ?_ ?_
  rotate_left
  · intro w'
    go_simp
    with_reducible rfl
  rotate_left
  · simp only [Act.put, List.setIfInBounds_toArray, List.set_cons_zero, List.set_cons_succ, i64_w, i32_w]
    rfl
  refine take_ (i := 3) (N := some 12) (v := ?_) (a' := ?_) #[true, true, true, true, false, false, false, false, false] rfl rfl (by kernel_rfl) (fun _ _ _ h => h) (Or.inl ⟨by rfl, ?_⟩) hHeld ?_ ?_
  rotate_left
  · rintro w' s2
    obtain ⟨c0, c1, c2, c3, c4, c5, c6, c7, c8, c9, c10⟩ := tiff_cells s2
    go_simp
    with_reducible rfl
  rotate_left
  · simp only [Act.put, List.setIfInBounds_toArray, List.set_cons_zero, List.set_cons_succ, i64_w, i32_w]
    rfl
  refine pure_ (i := 4) (N := some 13) (v := ?_) (a' := ?_) #[true, true, true, true, true, false, false, false, false] rfl rfl (by kernel_rfl) (fun _ _ _ h => h) (Or.inl ⟨by rfl, ?_⟩) ?_ ?_
  rotate_left
  · intro w'
    go_simp
    with_reducible rfl
  rotate_left
  · simp only [Act.put, List.setIfInBounds_toArray, List.set_cons_zero, List.set_cons_succ, i64_w, i32_w]
    rfl
  refine take_ (i := 5) (N := some 14) (v := ?_) (a' := ?_) #[true, true, true, true, true, true, false, false, false] rfl rfl (by kernel_rfl) (fun _ _ _ h => h) (Or.inl ⟨by rfl, ?_⟩) hHeld ?_ ?_
  rotate_left
  · rintro w' s2
    obtain ⟨c0, c1, c2, c3, c4, c5, c6, c7, c8, c9, c10⟩ := tiff_cells s2
    go_simp
    with_reducible rfl
  rotate_left
  · simp only [Act.put, List.setIfInBounds_toArray, List.set_cons_zero, List.set_cons_succ, i64_w, i32_w]
    rfl
  refine pure_ (i := 8) (N := some 17) (v := ?_) (a' := ?_) #[true, true, true, true, true, true, false, false, true] rfl rfl (by kernel_rfl) (fun _ _ _ h => h) (Or.inl ⟨by rfl, ?_⟩) ?_ ?_
  rotate_left
  · intro w'
    go_simp
    with_reducible rfl
  rotate_left
  · simp only [Act.put, List.setIfInBounds_toArray, List.set_cons_zero, List.set_cons_succ, i64_w, i32_w]
    rfl
  refine one_ (i := 6) (N := some 15) #[true, true, true, true, true, true, true, false, true] rfl rfl (by kernel_rfl) (by decide) (fun K hK => ?_)
  refine goes_ Tryd.func15 (by kernel_rfl) rfl #[.agg #[.bool b0, .int .i64 wide, .int .i64 high, .int .i64 x3, .int .i64 x4, .int .i64 x5, .int .i64 x6, .bool b7, .int .i64 x8, .int .i64 x9, .int .i64 x10]] (by rfl) rfl rfl (by simp [Act.eval]) ?_
  refine (HC.out w2).mono ?_
  rintro e w3 ⟨rfl, k1⟩
  refine ⟨_, rfl, ?_⟩
  have B3 := Aside0.mk (HB3.out.trans (k1.mono HB3.out.size))
  have HR4 := Aside0.mk (Kd.R_below HR3.out k1)
  refine hK.out _ _ ((k1.block _ (blk_lt hHeld)).trans hHeld) (fun hHeld3 => ?_)
  clear hK K k1 hHeld HB3 HC HB2 G2 hb1
  refine norm_ (a' := ?_) ?_ ?_
  rotate_left
  · show Act.put _ (some 15) _ = _
    simp only [Act.put, List.setIfInBounds_toArray, List.set_cons_zero, List.set_cons_succ, i64_w, i32_w]
    rfl
  refine pure_ (i := 7) (N := some 16) (v := ?_) (a' := ?_) #[true, true, true, true, true, true, true, true, true] rfl rfl (by kernel_rfl) (fun _ _ _ h => h) (Or.inl ⟨by rfl, ?_⟩) ?_ ?_
  rotate_left
  · intro w'
    go_simp
    with_reducible rfl
  rotate_left
  · simp only [Act.put, List.setIfInBounds_toArray, List.set_cons_zero, List.set_cons_succ, i64_w, i32_w]
    rfl
  refine done_ (by kernel_rfl) ?_
  have e1 := w64mul wide high (by omega)
  have e2 := w64mul (wide * high) ch (by omega)
  rw [e1, e2]
  clear e1 e2 hwh
  generalize wide * high * ch = N at *
  go_wp2
  go_loopg [5, 6, 7, 17] N (fun kq v5 v6 v7 v17 wr => ∃ (k : Nat) (ys : List Int), v17 = .int .i64 k ∧ Aside0 (kq = N - k ∧ k ≤ N) ∧ Aside0 (Kd.R (Kd.int .i64) 3 wr W.heap.size (fun k => k ≠ W.heap.size) v5 ys) ∧ Aside0 (ys.length = k) ∧ Aside0 (Below W.heap.size W wr) ∧ Aside0 (wr.heap[W.heap.size]? = some (.cells #[.bool b0, .int .i64 wide, .int .i64 high, .int .i64 x3, .int .i64 x4, .int .i64 x5, .int .i64 x6, .bool b7, .int .i64 x8, .int .i64 x9, .int .i64 x10] 24 (0, 0))))
  case atStart => exact ⟨0, [], rfl, ⟨rfl, by omega⟩, HR4, ⟨rfl⟩, B3, ⟨hHeld3⟩⟩
  case round =>
    obtain ⟨k, ys, rfl, HK, HR, HL, HB, HG⟩ := hrel
    have hkN := HK.out.2
    rcases Nat.lt_or_ge k N with hk | hk
    · obtain ⟨c0, c1, c2, c3, c4, c5, c6, c7, c8, c9, c10⟩ := tiff_cells HG.out
      clear c0 c1 c2 c3 c4 c6 c7 c8 c9 c10
      have hd64 : x5 ≤ 64 := by omega
      have hlt : W.heap.size < wr.heap.size := blk_lt HG.out
      have HLT := Aside0.mk hlt
      obtain ⟨A5, c5', rfl, _, _⟩ := Kd.R_reads HR.out
      clear hlt
      go_wp2_with ((with_reducible refine gate_builtin (b := .append) (xs := #[.tmp 45, .tmp 52]) rfl ?_); at_builtin; go_loud (refine Kd.R_append (Kd.int .i64) (w0 := W) W.heap.size rfl (.tmp 45) (.tmp 52) 28 3 (.int .i64 0) 8 rfl Tryd.underlying28 i3 rfl (by decide) (by omega) _ ys _ [_] (fun k => k ≠ W.heap.size) (fun _ => False) rfl rfl rfl (fun _ hk => hk.elim) (fun k hk => by have := HLT.out; omega) HR.out HB.out (Nat.le_of_lt HLT.out) (by have := HL.out; omega) ?_); intro v1 w1 ho hb1 hg1 hat; have HO := Aside0.mk ho; have HB1 := Aside0.mk hb1; have HG1 := Aside0.mk ((hg1.block W.heap.size HLT.out (fun e => (HR.out.1 _ e.symm) rfl)).trans HG.out); clear ho hb1 hg1 hat)
      go_roundg (N - (k + 1))
      case measure => have := HK.out; omega
      case rel => exact ⟨k + 1, _, by go_num, ⟨rfl, by omega⟩, HO, ⟨by have := HL.out; simp; omega⟩, HB1, HG1⟩
    · obtain rfl : k = N := by omega
      go_wp2
      go_ret
      exact ⟨_, ys, rfl, Kd.R_mono HR.out (fun _ _ => trivial), HL.out, HB.out⟩
end Go.Proofs.YtnodmobblamlgaaDoor
