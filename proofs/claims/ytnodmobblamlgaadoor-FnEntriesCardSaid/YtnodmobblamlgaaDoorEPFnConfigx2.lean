/- Words that a printer of the kit wrote for this seat, cut down to what this proof uses. -/
import Derived.Test.YtnodmobblamlgaaDoorEPx01
namespace Go.Proofs.YtnodmobblamlgaaDoor.PFnConfig
open Go.RowKit Go.Proofs.YtnodmobblamlgaaDoorW.PrintWords Go.Proofs.YtnodmobblamlgaaDoorW.PrintLast Go.Proofs.YtnodmobblamlgaaDoorW.PrintMore
attribute [local go_sem] max2_int min2_int max_two min_two max_three min_three max_four min_four   -- for this text's walks alone
set_option linter.unusedVariables false
set_option linter.unusedSimpArgs false

-- NOT PRINTED: function 5 (laws_shapeOf)

/-! ### spec_Tiff_Channels: function 15 -/
def spec_Tiff_Channels.f (a0_0 : Bool) (a0_1 : Int) (a0_2 : Int) (a0_3 : Int) (a0_4 : Int) (a0_5 : Int) (a0_6 : Int) (a0_7 : Bool) (a0_8 : Int) (a0_9 : Int) (a0_10 : Int) : Option (Int) := if a0_3 = 2 then (if a0_4 > 0 then (some 4) else (some 3)) else (some 1)
set_option maxHeartbeats 8000000 in
set_option maxRecDepth 100000 in
theorem spec_Tiff_Channels.calls (a0_0 : Bool) (a0_1 : Int) (a0_2 : Int) (a0_3 : Int) (a0_4 : Int) (a0_5 : Int) (a0_6 : Int) (a0_7 : Bool) (a0_8 : Int) (a0_9 : Int) (a0_10 : Int) (r : Int) (w : World) (h : spec_Tiff_Channels.f a0_0 a0_1 a0_2 a0_3 a0_4 a0_5 a0_6 a0_7 a0_8 a0_9 a0_10 = some r) :
    Calls Tryd.prog 15 #[.agg #[.bool a0_0, .int .i64 a0_1, .int .i64 a0_2, .int .i64 a0_3, .int .i64 a0_4, .int .i64 a0_5, .int .i64 a0_6, .bool a0_7, .int .i64 a0_8, .int .i64 a0_9, .int .i64 a0_10]] w fun e w' => e = .returned (.int .i64 r) ∧ Below w.heap.size w w' := by
  have hu24 := Tryd.underlying24
  have HB := Aside0.mk (Below.refl w.heap.size w)
  have H : (if a0_3 = 2 then (if a0_4 > 0 then (some 4) else (some 3)) else (some 1)) = some r := h
  clear h
  by_cases c2 : a0_3 = 2
  · rw [if_pos c2] at H
    have c2b0 : (a0_3 == 2) = true := beq_iff_eq.mpr c2
    have c2b1 : (a0_3 != 2) = false := bne_eq_false_iff_eq.mpr c2
    clear c2
    by_cases c3 : a0_4 > 0
    · rw [if_pos c3] at H
      have c3b0 : decide (0 < a0_4) = true := decide_eq_true c3
      clear c3
      obtain rfl := Option.some.inj H
      go_enter Tryd.func15, Tryd.ntmps15
      go_wp2_with (first | ((with_reducible refine gate_dst (N := 1) rfl ?_); refine box_event ?hg (N := 1) ?hd (cs := #[.bool a0_0, .int .i64 a0_1, .int .i64 a0_2, .int .i64 a0_3, .int .i64 a0_4, .int .i64 a0_5, .int .i64 a0_6, .bool a0_7, .int .i64 a0_8, .int .i64 a0_9, .int .i64 a0_10]) (t := 24) ?hr ?_; (case hd => rfl); (case hg => rfl); (case hr => first | (go_simp; done) | (go_simp; rfl)); intro gb119 hg w4 hbox hb; have n0_ := Aside0.mk (below_step (by repeat (first | (with_reducible first | exact HB.out | apply below_alloc | apply pw_below_drewN | apply below_drew1) | exact HB.out)) hb); have n1_ := Aside0.mk (hbox); have n2_ := Aside0.mk ((by rw [hg]; exact (below_size (by repeat (first | (with_reducible first | exact HB.out | apply below_alloc | apply pw_below_drewN | apply below_drew1) | exact HB.out))) : w.heap.size ≤ gb119)); have n3_ := Aside0.mk ((by rw [hg]; exact (below_size (by repeat (first | (with_reducible first | exact HB.out | apply below_alloc | apply pw_below_drewN | apply below_drew1) | exact HB.out))) : w.heap.size ≤ gb119)); clear HB; have HB := n0_; have BK119 := n1_; have GW119 := n2_; have GE119 := n3_; clear n0_ n1_ n2_ n3_; clear hb hbox hg; have hcz5_0 : w4.cell? ⟨gb119, 0, none⟩ = some (.bool a0_0) := (blk_cell BK119.out 0).trans rfl; have hcz5_1 : w4.cell? ⟨gb119, 1, none⟩ = some (.int .i64 a0_1) := (blk_cell BK119.out 1).trans rfl; have hcz5_2 : w4.cell? ⟨gb119, 2, none⟩ = some (.int .i64 a0_2) := (blk_cell BK119.out 2).trans rfl; have hcz5_3 : w4.cell? ⟨gb119, 3, none⟩ = some (.int .i64 a0_3) := (blk_cell BK119.out 3).trans rfl; have hcz5_4 : w4.cell? ⟨gb119, 4, none⟩ = some (.int .i64 a0_4) := (blk_cell BK119.out 4).trans rfl; have hcz5_5 : w4.cell? ⟨gb119, 5, none⟩ = some (.int .i64 a0_5) := (blk_cell BK119.out 5).trans rfl; have hcz5_6 : w4.cell? ⟨gb119, 6, none⟩ = some (.int .i64 a0_6) := (blk_cell BK119.out 6).trans rfl; have hcz5_7 : w4.cell? ⟨gb119, 7, none⟩ = some (.bool a0_7) := (blk_cell BK119.out 7).trans rfl; have hcz5_8 : w4.cell? ⟨gb119, 8, none⟩ = some (.int .i64 a0_8) := (blk_cell BK119.out 8).trans rfl; have hcz5_9 : w4.cell? ⟨gb119, 9, none⟩ = some (.int .i64 a0_9) := (blk_cell BK119.out 9).trans rfl; have hcz5_10 : w4.cell? ⟨gb119, 10, none⟩ = some (.int .i64 a0_10) := (blk_cell BK119.out 10).trans rfl; have hfz5_0 := blk_frozen BK119.out 0; have hfz5_1 := blk_frozen BK119.out 1; have hfz5_2 := blk_frozen BK119.out 2; have hfz5_3 := blk_frozen BK119.out 3; have hfz5_4 := blk_frozen BK119.out 4; have hfz5_5 := blk_frozen BK119.out 5; have hfz5_6 := blk_frozen BK119.out 6; have hfz5_7 := blk_frozen BK119.out 7; have hfz5_8 := blk_frozen BK119.out 8; have hfz5_9 := blk_frozen BK119.out 9; have hfz5_10 := blk_frozen BK119.out 10))
      go_ret
      exact ⟨by first | rfl | (simp [errW_none, errW_some] <;> rfl) | (simp [*, errW_none, errW_some] <;> rfl), by repeat (first | (with_reducible first | exact HB.out | apply below_alloc | apply pw_below_drewN | apply below_drew1 | refine below_set ?_ GE119.out) | exact HB.out)⟩
    · rw [if_neg c3] at H
      have c3b0 : decide (0 < a0_4) = false := decide_eq_false c3
      clear c3
      obtain rfl := Option.some.inj H
      go_enter Tryd.func15, Tryd.ntmps15
      go_wp2_with (first | ((with_reducible refine gate_dst (N := 1) rfl ?_); refine box_event ?hg (N := 1) ?hd (cs := #[.bool a0_0, .int .i64 a0_1, .int .i64 a0_2, .int .i64 a0_3, .int .i64 a0_4, .int .i64 a0_5, .int .i64 a0_6, .bool a0_7, .int .i64 a0_8, .int .i64 a0_9, .int .i64 a0_10]) (t := 24) ?hr ?_; (case hd => rfl); (case hg => rfl); (case hr => first | (go_simp; done) | (go_simp; rfl)); intro gb119 hg w6 hbox hb; have n0_ := Aside0.mk (below_step (by repeat (first | (with_reducible first | exact HB.out | apply below_alloc | apply pw_below_drewN | apply below_drew1) | exact HB.out)) hb); have n1_ := Aside0.mk (hbox); have n2_ := Aside0.mk ((by rw [hg]; exact (below_size (by repeat (first | (with_reducible first | exact HB.out | apply below_alloc | apply pw_below_drewN | apply below_drew1) | exact HB.out))) : w.heap.size ≤ gb119)); have n3_ := Aside0.mk ((by rw [hg]; exact (below_size (by repeat (first | (with_reducible first | exact HB.out | apply below_alloc | apply pw_below_drewN | apply below_drew1) | exact HB.out))) : w.heap.size ≤ gb119)); clear HB; have HB := n0_; have BK119 := n1_; have GW119 := n2_; have GE119 := n3_; clear n0_ n1_ n2_ n3_; clear hb hbox hg; have hcz7_0 : w6.cell? ⟨gb119, 0, none⟩ = some (.bool a0_0) := (blk_cell BK119.out 0).trans rfl; have hcz7_1 : w6.cell? ⟨gb119, 1, none⟩ = some (.int .i64 a0_1) := (blk_cell BK119.out 1).trans rfl; have hcz7_2 : w6.cell? ⟨gb119, 2, none⟩ = some (.int .i64 a0_2) := (blk_cell BK119.out 2).trans rfl; have hcz7_3 : w6.cell? ⟨gb119, 3, none⟩ = some (.int .i64 a0_3) := (blk_cell BK119.out 3).trans rfl; have hcz7_4 : w6.cell? ⟨gb119, 4, none⟩ = some (.int .i64 a0_4) := (blk_cell BK119.out 4).trans rfl; have hcz7_5 : w6.cell? ⟨gb119, 5, none⟩ = some (.int .i64 a0_5) := (blk_cell BK119.out 5).trans rfl; have hcz7_6 : w6.cell? ⟨gb119, 6, none⟩ = some (.int .i64 a0_6) := (blk_cell BK119.out 6).trans rfl; have hcz7_7 : w6.cell? ⟨gb119, 7, none⟩ = some (.bool a0_7) := (blk_cell BK119.out 7).trans rfl; have hcz7_8 : w6.cell? ⟨gb119, 8, none⟩ = some (.int .i64 a0_8) := (blk_cell BK119.out 8).trans rfl; have hcz7_9 : w6.cell? ⟨gb119, 9, none⟩ = some (.int .i64 a0_9) := (blk_cell BK119.out 9).trans rfl; have hcz7_10 : w6.cell? ⟨gb119, 10, none⟩ = some (.int .i64 a0_10) := (blk_cell BK119.out 10).trans rfl; have hfz7_0 := blk_frozen BK119.out 0; have hfz7_1 := blk_frozen BK119.out 1; have hfz7_2 := blk_frozen BK119.out 2; have hfz7_3 := blk_frozen BK119.out 3; have hfz7_4 := blk_frozen BK119.out 4; have hfz7_5 := blk_frozen BK119.out 5; have hfz7_6 := blk_frozen BK119.out 6; have hfz7_7 := blk_frozen BK119.out 7; have hfz7_8 := blk_frozen BK119.out 8; have hfz7_9 := blk_frozen BK119.out 9; have hfz7_10 := blk_frozen BK119.out 10))
      go_ret
      exact ⟨by first | rfl | (simp [errW_none, errW_some] <;> rfl) | (simp [*, errW_none, errW_some] <;> rfl), by repeat (first | (with_reducible first | exact HB.out | apply below_alloc | apply pw_below_drewN | apply below_drew1 | refine below_set ?_ GE119.out) | exact HB.out)⟩
  · rw [if_neg c2] at H
    have c2b0 : (a0_3 == 2) = false := beq_eq_false_iff_ne.mpr c2
    have c2b1 : (a0_3 != 2) = true := bne_iff_ne.mpr c2
    obtain rfl := Option.some.inj H
    go_enter Tryd.func15, Tryd.ntmps15
    go_wp2_with (first | ((with_reducible refine gate_dst (N := 1) rfl ?_); refine box_event ?hg (N := 1) ?hd (cs := #[.bool a0_0, .int .i64 a0_1, .int .i64 a0_2, .int .i64 a0_3, .int .i64 a0_4, .int .i64 a0_5, .int .i64 a0_6, .bool a0_7, .int .i64 a0_8, .int .i64 a0_9, .int .i64 a0_10]) (t := 24) ?hr ?_; (case hd => rfl); (case hg => rfl); (case hr => first | (go_simp; done) | (go_simp; rfl)); intro gb119 hg w8 hbox hb; have n0_ := Aside0.mk (below_step (by repeat (first | (with_reducible first | exact HB.out | apply below_alloc | apply pw_below_drewN | apply below_drew1) | exact HB.out)) hb); have n1_ := Aside0.mk (hbox); have n2_ := Aside0.mk ((by rw [hg]; exact (below_size (by repeat (first | (with_reducible first | exact HB.out | apply below_alloc | apply pw_below_drewN | apply below_drew1) | exact HB.out))) : w.heap.size ≤ gb119)); have n3_ := Aside0.mk ((by rw [hg]; exact (below_size (by repeat (first | (with_reducible first | exact HB.out | apply below_alloc | apply pw_below_drewN | apply below_drew1) | exact HB.out))) : w.heap.size ≤ gb119)); clear HB; have HB := n0_; have BK119 := n1_; have GW119 := n2_; have GE119 := n3_; clear n0_ n1_ n2_ n3_; clear hb hbox hg; have hcz9_0 : w8.cell? ⟨gb119, 0, none⟩ = some (.bool a0_0) := (blk_cell BK119.out 0).trans rfl; have hcz9_1 : w8.cell? ⟨gb119, 1, none⟩ = some (.int .i64 a0_1) := (blk_cell BK119.out 1).trans rfl; have hcz9_2 : w8.cell? ⟨gb119, 2, none⟩ = some (.int .i64 a0_2) := (blk_cell BK119.out 2).trans rfl; have hcz9_3 : w8.cell? ⟨gb119, 3, none⟩ = some (.int .i64 a0_3) := (blk_cell BK119.out 3).trans rfl; have hcz9_4 : w8.cell? ⟨gb119, 4, none⟩ = some (.int .i64 a0_4) := (blk_cell BK119.out 4).trans rfl; have hcz9_5 : w8.cell? ⟨gb119, 5, none⟩ = some (.int .i64 a0_5) := (blk_cell BK119.out 5).trans rfl; have hcz9_6 : w8.cell? ⟨gb119, 6, none⟩ = some (.int .i64 a0_6) := (blk_cell BK119.out 6).trans rfl; have hcz9_7 : w8.cell? ⟨gb119, 7, none⟩ = some (.bool a0_7) := (blk_cell BK119.out 7).trans rfl; have hcz9_8 : w8.cell? ⟨gb119, 8, none⟩ = some (.int .i64 a0_8) := (blk_cell BK119.out 8).trans rfl; have hcz9_9 : w8.cell? ⟨gb119, 9, none⟩ = some (.int .i64 a0_9) := (blk_cell BK119.out 9).trans rfl; have hcz9_10 : w8.cell? ⟨gb119, 10, none⟩ = some (.int .i64 a0_10) := (blk_cell BK119.out 10).trans rfl; have hfz9_0 := blk_frozen BK119.out 0; have hfz9_1 := blk_frozen BK119.out 1; have hfz9_2 := blk_frozen BK119.out 2; have hfz9_3 := blk_frozen BK119.out 3; have hfz9_4 := blk_frozen BK119.out 4; have hfz9_5 := blk_frozen BK119.out 5; have hfz9_6 := blk_frozen BK119.out 6; have hfz9_7 := blk_frozen BK119.out 7; have hfz9_8 := blk_frozen BK119.out 8; have hfz9_9 := blk_frozen BK119.out 9; have hfz9_10 := blk_frozen BK119.out 10))
    go_ret
    exact ⟨by first | rfl | (simp [errW_none, errW_some] <;> rfl) | (simp [*, errW_none, errW_some] <;> rfl), by repeat (first | (with_reducible first | exact HB.out | apply below_alloc | apply pw_below_drewN | apply below_drew1 | refine below_set ?_ GE119.out) | exact HB.out)⟩

/-! ### spec_number: function 19 -/
def spec_number.l0 : Nat → Bool → Int → Int → List Int → Int → Int → Option (List Int)
  | 0, _, _, _, _, _, _ => none
  | k + 1, x0, x1, x2, x7, x10, x11 => if x11 < x10 then (if x0 = true then (if 0 ≤ (wrap64 (8 * (wrap64 ((wrap64 (x1 - 1)) - x11)))) then (if x7.length < 140737488355328 then (spec_number.l0 k x0 x1 x2 (x7 ++ [(shr .i64 x2 (wrap64 (8 * (wrap64 ((wrap64 (x1 - 1)) - x11))))) % 256]) x10 (wrap64 (x11 + 1))) else (none)) else (none)) else (if 0 ≤ (wrap64 (8 * x11)) then (if x7.length < 140737488355328 then (spec_number.l0 k x0 x1 x2 (x7 ++ [(shr .i64 x2 (wrap64 (8 * x11))) % 256]) x10 (wrap64 (x11 + 1))) else (none)) else (none))) else (some x7)
def spec_number.f (k : Nat) (a0 : Bool) (a1 : Int) (a2 : Int) : Option (List Int) := spec_number.l0 k a0 a1 a2 (([] : List Int)) a1 0
theorem spec_number.mono_l : ∀ k, (∀ y0 y1 y2 y3 y4 y5, LeO (spec_number.l0 k y0 y1 y2 y3 y4 y5) (spec_number.l0 (k + 1) y0 y1 y2 y3 y4 y5))
  | 0 => fun _ _ _ _ _ _ r h => by simp [spec_number.l0] at h
  | k + 1 => by
    have ih0 := spec_number.mono_l k
    · intro y0 y1 y2 y3 y4 y5
      unfold spec_number.l0
      repeat' first
      | (with_reducible exact ih0 _ _ _ _ _ _)
      | (with_reducible exact LeO.refl _)
      | (with_reducible exact LeO.none _)
      | (with_reducible refine LeO.ite ?_ ?_)
      | (with_reducible refine LeO.bind ?_ (fun _ => ?_))
      | exact ih0 _ _ _ _ _ _
      | exact LeO.none _
      | refine LeO.ite ?_ ?_
      | refine LeO.bind ?_ (fun _ => ?_)
theorem spec_number.mono : ∀ a0 a1 a2 k, LeO (spec_number.f k a0 a1 a2) (spec_number.f (k + 1) a0 a1 a2) := by
  intro a0 a1 a2 k
  have ih0 := spec_number.mono_l k
  unfold spec_number.f
  repeat' first
      | (with_reducible exact ih0 _ _ _ _ _ _)
      | (with_reducible exact LeO.refl _)
      | (with_reducible exact LeO.none _)
      | (with_reducible refine LeO.ite ?_ ?_)
      | (with_reducible refine LeO.bind ?_ (fun _ => ?_))
      | exact ih0 _ _ _ _ _ _
      | exact LeO.none _
      | refine LeO.ite ?_ ?_
      | refine LeO.bind ?_ (fun _ => ?_)
set_option maxHeartbeats 8000000 in
set_option maxRecDepth 100000 in
theorem spec_number.calls (k : Nat) (a0 : Bool) (a1 : Int) (a2 : Int) (r : List Int) (w : World) (h : spec_number.f k a0 a1 a2 = some r) :
    Calls Tryd.prog 19 #[.bool a0, .int .i64 a1, .int .i64 a2] w fun e w' => ∃ v0_ : Value, e = .returned (v0_) ∧ Kd.R (Kd.int .u8) 5 w' w.heap.size (fun _ => True) v0_ r ∧ Below w.heap.size w w' := by
  have HB := Aside0.mk (Below.refl w.heap.size w)
  have H : (spec_number.l0 k a0 a1 a2 (([] : List Int)) a1 0) = some r := h
  clear h
  obtain ⟨y120, hy120⟩ : ∃ y_ : List Int, y_ = (([] : List Int)) := ⟨_, rfl⟩
  replace H : (spec_number.l0 k a0 a1 a2 y120 a1 0) = some r := by first | (rw [hy120]; with_reducible exact H) | (have H2_ := (Option.bind_some _ _).symm.trans H; rw [hy120]; with_reducible exact H2_) | (have H2_ := (Option.bind_some _ _).symm.trans H; with_reducible exact H2_) | with_reducible exact H | (rw [hy120]; exact H) | exact H
  have Ny120 := Aside0.mk hy120
  clear hy120
  have H' := Aside0.mk H
  clear H
  go_enter Tryd.func19, Tryd.ntmps19
  go_wp2_with (first | ((with_reducible refine gate_dst (N := 9) rfl ?_); refine Kd.R_lit (Kd.int .u8) _ 5 ?hg (N := 9) ?hd (xs := ([] : List Int)) (inner := []) (ok := fun _ => True) (okp := fun _ => True) ?hr ?hp (fun _ hk => hk) trivial (Below.refl _ _) (Nat.le_refl _) (by simp) ?_; (case hd => rfl); (case hg => rfl); (case hr => first | (go_simp; done) | (go_simp; rfl)); (case hp => exact (Reps.none _ _)); intro v121 w4 ho5 hb hg_ hnew_; clear hg_ hnew_; (first | rw [← Ny120.out] at ho5 | (simp only [Int.reduceToNat] at ho5; rw [← Ny120.out] at ho5)); have n0_ := Aside0.mk (Kd.R_lower ho5 (below_size (by repeat (first | (with_reducible first | exact HB.out | apply below_alloc | apply pw_below_drewN | apply below_drew1) | exact HB.out)))); have n1_ := Aside0.mk (below_step (by repeat (first | (with_reducible first | exact HB.out | apply below_alloc | apply pw_below_drewN | apply below_drew1) | exact HB.out)) hb); clear HB; have HO122 := n0_; have HB := n1_; clear n0_ n1_; clear hb ho5))
  go_loopg [7, 11] k (fun kq v7 v11 w' => ∃ (x7_1 : List Int) (x11_1 : Int), v11 = .int .i64 x11_1 ∧ Aside0 (spec_number.l0 kq a0 a1 a2 x7_1 a1 x11_1 = some r) ∧ Aside0 (kq ≤ k) ∧ Aside0 (Kd.R (Kd.int .u8) 5 w' w.heap.size (fun _ => True) v7 x7_1) ∧ Aside0 (Below w.heap.size w w'))
  case atStart => exact ⟨(y120), (0), (by first | rfl | (simp; done) | (simp [*]; done)), H', ⟨Nat.le_refl _⟩, ⟨by (with_reducible repeat (first | apply Kd.R_alloc | apply Kd.R_drewN | apply Kd.R_drew)); exact HO122.out⟩, ⟨by repeat (first | (with_reducible first | exact HB.out | apply below_alloc | apply pw_below_drewN | apply below_drew1) | exact HB.out)⟩⟩
  case round =>
    clear H'
    try clear c1
    try clear p2
    obtain ⟨x7_1, x11_1, rfl, HA, HK1, HO_7, HB⟩ := hrel
    cases gk with
    | zero => exact absurd HA.out (by simp [spec_number.l0])
    | succ k1 =>
      have H := HA.out
      clear HA
      simp only [spec_number.l0] at H
      by_cases c6 : x11_1 < a1
      · rw [if_pos c6] at H
        have c6b0 : decide (x11_1 < a1) = true := decide_eq_true c6
        clear c6
        by_cases c7 : a0 = true
        · subst c7
          have H1 : (if 0 ≤ (wrap64 (8 * (wrap64 ((wrap64 (a1 - 1)) - x11_1)))) then (if x7_1.length < 140737488355328 then (spec_number.l0 k1 true a1 a2 (x7_1 ++ [(shr .i64 a2 (wrap64 (8 * (wrap64 ((wrap64 (a1 - 1)) - x11_1))))) % 256]) a1 (wrap64 (x11_1 + 1))) else (none)) else (none)) = some r := by rw [if_pos rfl] at H; exact H
          clear H
          have H := H1
          clear H1
          obtain ⟨ji8, hji8⟩ : ∃ j_ : Int, (wrap64 (8 * (wrap64 ((wrap64 (a1 - 1)) - x11_1)))) = j_ := ⟨_, rfl⟩
          replace H : (if 0 ≤ (ji8) then (if x7_1.length < 140737488355328 then (spec_number.l0 k1 true a1 a2 (x7_1 ++ [(shr .i64 a2 (ji8)) % 256]) a1 (wrap64 (x11_1 + 1))) else (none)) else (none)) = some r := by first | (rw [hji8] at H; exact H) | (simp only [hji8] at H ⊢; exact H)
          have hji8w : (IntKind.i64.wrap (8 * (wrap64 ((wrap64 (a1 - 1)) - x11_1)))) = ji8 := (i64_w _).trans hji8
          by_cases c9 : 0 ≤ (ji8)
          · rw [if_pos c9] at H
            have c9b0 := eq_true c9
            have c9b1 : decide (0 ≤ (ji8)) = true := decide_eq_true c9
            clear c9
            obtain ⟨ji10, hji10⟩ : ∃ j_ : Int, (shr .i64 a2 (ji8)) = j_ := ⟨_, rfl⟩
            replace H : (if x7_1.length < 140737488355328 then (spec_number.l0 k1 true a1 a2 (x7_1 ++ [(ji10) % 256]) a1 (wrap64 (x11_1 + 1))) else (none)) = some r := by first | (rw [hji10] at H; exact H) | (simp only [hji10] at H ⊢; exact H)
            have hji10_ : (a2 / 2 ^ min (ji8).toNat 64) = ji10 := hji10
            have hji10z : (ji8) ≤ 64 → (a2 / 2 ^ (ji8).toNat) = ji10 := shr_small hji10
            by_cases c11 : x7_1.length < 140737488355328
            · rw [if_pos c11] at H
              have LMc11 := Aside0.mk c11
              clear c11
              obtain ⟨y123, hy123⟩ : ∃ y_ : List Int, y_ = (x7_1 ++ [(ji10) % 256]) := ⟨_, rfl⟩
              replace H : (spec_number.l0 k1 true a1 a2 y123 a1 (wrap64 (x11_1 + 1))) = some r := by first | (rw [hy123]; with_reducible exact H) | (have H2_ := (Option.bind_some _ _).symm.trans H; rw [hy123]; with_reducible exact H2_) | (have H2_ := (Option.bind_some _ _).symm.trans H; with_reducible exact H2_) | with_reducible exact H | (rw [hy123]; exact H) | exact H
              have Ny123 := Aside0.mk hy123
              clear hy123
              have H' := Aside0.mk H
              clear H
              go_wp2_with (first | ((with_reducible refine gate_builtin (b := .append) (xs := #[.tmp 15, .tmp 24]) rfl ?_); at_builtin; refine Kd.R_append (Kd.int .u8) (w0 := w) w.heap.size rfl (.tmp 15) (.tmp 24) 26 5 (.int .u8 0) 1 rfl Tryd.underlying26 info5 rfl (by decide) (by omega) u7 x7_1 ((ji10) % 256) [.int .u8 ((ji10) % 256)] (fun _ => True) (fun _ => False) rfl rfl ?aP (fun _ hk => hk.elim) ?aF ?aO ?aB ?aS ?aL ?_; (case aP => exact rfl); (case aB => exact (by repeat (first | (with_reducible first | exact HB.out | apply below_alloc | apply pw_below_drewN | apply below_drew1) | exact HB.out))); (case aF => exact (fun _ _ => trivial)); (case aO => exact (by (with_reducible repeat (first | apply Kd.R_alloc | apply Kd.R_drewN | apply Kd.R_drew)); exact HO_7.out)); (case aS => exact (below_size (by repeat (first | (with_reducible first | exact HB.out | apply below_alloc | apply pw_below_drewN | apply below_drew1) | exact HB.out)))); (case aL => have := LMc11.out; omega); intro v124 w12 ho hb hg hat; rw [← Ny123.out] at ho; have n0_ := Aside0.mk (hb); have n1_ := Aside0.mk (ho); clear HB; clear HO_7; have HB := n0_; have HO125 := n1_; clear n0_ n1_; clear ho hb hg hat))
              go_roundg k1
              case measure => have := HK1.out; omega
              case rel => exact ⟨(y123), (wrap64 (x11_1 + 1)), (by first | rfl | (simp; done) | (simp [*]; done)), H', ⟨by have := HK1.out; omega⟩, ⟨by (with_reducible repeat (first | apply Kd.R_alloc | apply Kd.R_drewN | apply Kd.R_drew)); exact HO125.out⟩, ⟨by repeat (first | (with_reducible first | exact HB.out | apply below_alloc | apply pw_below_drewN | apply below_drew1) | exact HB.out)⟩⟩
            · rw [if_neg c11] at H
              exact absurd H (by simp)
          · rw [if_neg c9] at H
            exact absurd H (by simp)
        · replace c7 := Bool.eq_false_iff.mpr c7
          subst c7
          have H1 : (if 0 ≤ (wrap64 (8 * x11_1)) then (if x7_1.length < 140737488355328 then (spec_number.l0 k1 false a1 a2 (x7_1 ++ [(shr .i64 a2 (wrap64 (8 * x11_1))) % 256]) a1 (wrap64 (x11_1 + 1))) else (none)) else (none)) = some r := by rw [if_neg (show ¬ (false = true) by decide)] at H; exact H
          clear H
          have H := H1
          clear H1
          obtain ⟨ji13, hji13⟩ : ∃ j_ : Int, (wrap64 (8 * x11_1)) = j_ := ⟨_, rfl⟩
          replace H : (if 0 ≤ (ji13) then (if x7_1.length < 140737488355328 then (spec_number.l0 k1 false a1 a2 (x7_1 ++ [(shr .i64 a2 (ji13)) % 256]) a1 (wrap64 (x11_1 + 1))) else (none)) else (none)) = some r := by first | (rw [hji13] at H; exact H) | (simp only [hji13] at H ⊢; exact H)
          have hji13w : (IntKind.i64.wrap (8 * x11_1)) = ji13 := (i64_w _).trans hji13
          by_cases c14 : 0 ≤ (ji13)
          · rw [if_pos c14] at H
            have c14b0 := eq_true c14
            have c14b1 : decide (0 ≤ (ji13)) = true := decide_eq_true c14
            clear c14
            obtain ⟨ji15, hji15⟩ : ∃ j_ : Int, (shr .i64 a2 (ji13)) = j_ := ⟨_, rfl⟩
            replace H : (if x7_1.length < 140737488355328 then (spec_number.l0 k1 false a1 a2 (x7_1 ++ [(ji15) % 256]) a1 (wrap64 (x11_1 + 1))) else (none)) = some r := by first | (rw [hji15] at H; exact H) | (simp only [hji15] at H ⊢; exact H)
            have hji15_ : (a2 / 2 ^ min (ji13).toNat 64) = ji15 := hji15
            have hji15z : (ji13) ≤ 64 → (a2 / 2 ^ (ji13).toNat) = ji15 := shr_small hji15
            by_cases c16 : x7_1.length < 140737488355328
            · rw [if_pos c16] at H
              have LMc16 := Aside0.mk c16
              clear c16
              obtain ⟨y126, hy126⟩ : ∃ y_ : List Int, y_ = (x7_1 ++ [(ji15) % 256]) := ⟨_, rfl⟩
              replace H : (spec_number.l0 k1 false a1 a2 y126 a1 (wrap64 (x11_1 + 1))) = some r := by first | (rw [hy126]; with_reducible exact H) | (have H2_ := (Option.bind_some _ _).symm.trans H; rw [hy126]; with_reducible exact H2_) | (have H2_ := (Option.bind_some _ _).symm.trans H; with_reducible exact H2_) | with_reducible exact H | (rw [hy126]; exact H) | exact H
              have Ny126 := Aside0.mk hy126
              clear hy126
              have H' := Aside0.mk H
              clear H
              go_wp2_with (first | ((with_reducible refine gate_builtin (b := .append) (xs := #[.tmp 26, .tmp 32]) rfl ?_); at_builtin; refine Kd.R_append (Kd.int .u8) (w0 := w) w.heap.size rfl (.tmp 26) (.tmp 32) 26 5 (.int .u8 0) 1 rfl Tryd.underlying26 info5 rfl (by decide) (by omega) u7 x7_1 ((ji15) % 256) [.int .u8 ((ji15) % 256)] (fun _ => True) (fun _ => False) rfl rfl ?aP (fun _ hk => hk.elim) ?aF ?aO ?aB ?aS ?aL ?_; (case aP => exact rfl); (case aB => exact (by repeat (first | (with_reducible first | exact HB.out | apply below_alloc | apply pw_below_drewN | apply below_drew1) | exact HB.out))); (case aF => exact (fun _ _ => trivial)); (case aO => exact (by (with_reducible repeat (first | apply Kd.R_alloc | apply Kd.R_drewN | apply Kd.R_drew)); exact HO_7.out)); (case aS => exact (below_size (by repeat (first | (with_reducible first | exact HB.out | apply below_alloc | apply pw_below_drewN | apply below_drew1) | exact HB.out)))); (case aL => have := LMc16.out; omega); intro v127 w17 ho hb hg hat; rw [← Ny126.out] at ho; have n0_ := Aside0.mk (hb); have n1_ := Aside0.mk (ho); clear HB; clear HO_7; have HB := n0_; have HO128 := n1_; clear n0_ n1_; clear ho hb hg hat))
              go_roundg k1
              case measure => have := HK1.out; omega
              case rel => exact ⟨(y126), (wrap64 (x11_1 + 1)), (by first | rfl | (simp; done) | (simp [*]; done)), H', ⟨by have := HK1.out; omega⟩, ⟨by (with_reducible repeat (first | apply Kd.R_alloc | apply Kd.R_drewN | apply Kd.R_drew)); exact HO128.out⟩, ⟨by repeat (first | (with_reducible first | exact HB.out | apply below_alloc | apply pw_below_drewN | apply below_drew1) | exact HB.out)⟩⟩
            · rw [if_neg c16] at H
              exact absurd H (by simp)
          · rw [if_neg c14] at H
            exact absurd H (by simp)
      · rw [if_neg c6] at H
        have c6b0 : decide (x11_1 < a1) = false := decide_eq_false c6
        clear c6
        obtain rfl := Option.some.inj H
        go_wp2
        go_ret
        exact ⟨_, by first | rfl | (simp [errW_none, errW_some] <;> rfl) | (simp [*, errW_none, errW_some] <;> rfl), by (with_reducible repeat (first | apply Kd.R_alloc | apply Kd.R_drewN | apply Kd.R_drew)); exact HO_7.out, by repeat (first | (with_reducible first | exact HB.out | apply below_alloc | apply pw_below_drewN | apply below_drew1) | exact HB.out)⟩

end Go.Proofs.YtnodmobblamlgaaDoor.PFnConfig
