/- Words that a printer of the kit wrote for this seat, cut down to what this proof uses. -/
import Derived.Test.YtnodmobblamlgaaDoorEPx01
import Derived.Test.YtnodmobblamlgaaDoorEPFnConfigx2
namespace Go.Proofs.YtnodmobblamlgaaDoor.PFnConfig
open Go.RowKit Go.Proofs.YtnodmobblamlgaaDoorW.PrintWords Go.Proofs.YtnodmobblamlgaaDoorW.PrintLast Go.Proofs.YtnodmobblamlgaaDoorW.PrintMore
attribute [local go_sem] max2_int min2_int max_two min_two max_three min_three max_four min_four   -- for this text's walks alone
set_option linter.unusedVariables false
set_option linter.unusedSimpArgs false

/-! ### spec_Tiff_rowOf: function 16 -/
mutual
def spec_Tiff_rowOf.l0 : Nat → List Int → List Int → Int → List Int → Int → Int → Bool → Int → Int → Int → Int → Int → Int → Bool → Int → Int → Int → Option (List Int)
  | 0, _, _, _, _, _, _, _, _, _, _, _, _, _, _, _, _, _ => none
  | k + 1, x1, x5, x6, x12, x13, x14, x130000, x130001, x130002, x130003, x130004, x130005, x130006, x130007, x130008, x130009, x130010 => if x14 < x13 then (if 0 ≤ x14 then (if x14 < (x12.length : Int) then (if x130007 = true then (spec_Tiff_rowOf.j1 k x1 x5 x6 x14 (rd x12 x14) x12 x13 x14 (decide (x14 ≥ x6)) x130000 x130001 x130002 x130003 x130004 x130005 x130006 x130007 x130008 x130009 x130010) else (spec_Tiff_rowOf.j1 k x1 x5 x6 x14 (rd x12 x14) x12 x13 x14 false x130000 x130001 x130002 x130003 x130004 x130005 x130006 x130007 x130008 x130009 x130010)) else (none)) else (none)) else (some x5)
def spec_Tiff_rowOf.j1 : Nat → List Int → List Int → Int → Int → Int → List Int → Int → Int → Bool → Bool → Int → Int → Int → Int → Int → Int → Bool → Int → Int → Int → Option (List Int)
  | 0, _, _, _, _, _, _, _, _, _, _, _, _, _, _, _, _, _, _, _, _ => none
  | k + 1, x1, x5, x6, x7, x8, x12, x13, x14, x25, x130000, x130001, x130002, x130003, x130004, x130005, x130006, x130007, x130008, x130009, x130010 => if x25 = true then (if 0 ≤ (wrap64 (x7 - x6)) then (if (wrap64 (x7 - x6)) < (x1.length : Int) then (spec_Tiff_rowOf.j2 k x1 x5 x6 x7 (wrap64 (x8 - (rd x1 (wrap64 (x7 - x6))))) x12 x13 x14 x130000 x130001 x130002 x130003 x130004 x130005 x130006 x130007 x130008 x130009 x130010) else (none)) else (none)) else (spec_Tiff_rowOf.j2 k x1 x5 x6 x7 x8 x12 x13 x14 x130000 x130001 x130002 x130003 x130004 x130005 x130006 x130007 x130008 x130009 x130010)
def spec_Tiff_rowOf.j2 : Nat → List Int → List Int → Int → Int → Int → List Int → Int → Int → Bool → Int → Int → Int → Int → Int → Int → Bool → Int → Int → Int → Option (List Int)
  | 0, _, _, _, _, _, _, _, _, _, _, _, _, _, _, _, _, _, _, _ => none
  | k + 1, x1, x5, x6, x7, x8, x12, x13, x14, x130000, x130001, x130002, x130003, x130004, x130005, x130006, x130007, x130008, x130009, x130010 => if x130005 = 16 then ((spec_number.f k x130000 2 (Go.bits .and .i64 x8 65535)).bind fun t136 => (if x5.length + t136.length < 140737488355328 then (spec_Tiff_rowOf.l0 k x1 (x5 ++ t136) x6 x12 x13 (wrap64 (x14 + 1)) x130000 x130001 x130002 x130003 x130004 x130005 x130006 x130007 x130008 x130009 x130010) else (none))) else (if x130005 = 8 then (if x5.length < 140737488355328 then (spec_Tiff_rowOf.l0 k x1 (x5 ++ [(x8) % 256]) x6 x12 x13 (wrap64 (x14 + 1)) x130000 x130001 x130002 x130003 x130004 x130005 x130006 x130007 x130008 x130009 x130010) else (none)) else (if (Int.tmod (wrap64 (x7 * x130005)) 8) = 0 then (if 0 ≤ (wrap64 (8 - x130005)) then (if x5.length < 140737488355328 then (spec_Tiff_rowOf.l0 k x1 (x5 ++ [(shl .i64 x8 (wrap64 (8 - x130005))) % 256]) x6 x12 x13 (wrap64 (x14 + 1)) x130000 x130001 x130002 x130003 x130004 x130005 x130006 x130007 x130008 x130009 x130010) else (none)) else (none)) else (if 0 ≤ (wrap64 ((x5.length : Int) - 1)) then (if (wrap64 ((x5.length : Int) - 1)) < (x5.length : Int) then (if 0 ≤ (wrap64 ((wrap64 (8 - x130005)) - (Int.tmod (wrap64 (x7 * x130005)) 8))) then (spec_Tiff_rowOf.l0 k x1 (x5.set ((wrap64 ((x5.length : Int) - 1)) : Int).toNat (Go.bits .or .u8 (rd x5 (wrap64 ((x5.length : Int) - 1))) ((shl .i64 x8 (wrap64 ((wrap64 (8 - x130005)) - (Int.tmod (wrap64 (x7 * x130005)) 8)))) % 256))) x6 x12 x13 (wrap64 (x14 + 1)) x130000 x130001 x130002 x130003 x130004 x130005 x130006 x130007 x130008 x130009 x130010) else (none)) else (none)) else (none))))
end
def spec_Tiff_rowOf.f (k : Nat) (a0_0 : Bool) (a0_1 : Int) (a0_2 : Int) (a0_3 : Int) (a0_4 : Int) (a0_5 : Int) (a0_6 : Int) (a0_7 : Bool) (a0_8 : Int) (a0_9 : Int) (a0_10 : Int) (l1 : List Int) : Option (List Int) := (spec_Tiff_Channels.f a0_0 a0_1 a0_2 a0_3 a0_4 a0_5 a0_6 a0_7 a0_8 a0_9 a0_10).bind fun t133 => (spec_Tiff_rowOf.l0 k l1 (([] : List Int)) t133 l1 (l1.length : Int) 0 a0_0 a0_1 a0_2 a0_3 a0_4 a0_5 a0_6 a0_7 a0_8 a0_9 a0_10)
theorem spec_Tiff_rowOf.mono_l : ∀ k, (∀ y0 y1 y2 y3 y4 y5 y6 y7 y8 y9 y10 y11 y12 y13 y14 y15 y16, LeO (spec_Tiff_rowOf.l0 k y0 y1 y2 y3 y4 y5 y6 y7 y8 y9 y10 y11 y12 y13 y14 y15 y16) (spec_Tiff_rowOf.l0 (k + 1) y0 y1 y2 y3 y4 y5 y6 y7 y8 y9 y10 y11 y12 y13 y14 y15 y16)) ∧ (∀ y0 y1 y2 y3 y4 y5 y6 y7 y8 y9 y10 y11 y12 y13 y14 y15 y16 y17 y18 y19, LeO (spec_Tiff_rowOf.j1 k y0 y1 y2 y3 y4 y5 y6 y7 y8 y9 y10 y11 y12 y13 y14 y15 y16 y17 y18 y19) (spec_Tiff_rowOf.j1 (k + 1) y0 y1 y2 y3 y4 y5 y6 y7 y8 y9 y10 y11 y12 y13 y14 y15 y16 y17 y18 y19)) ∧ (∀ y0 y1 y2 y3 y4 y5 y6 y7 y8 y9 y10 y11 y12 y13 y14 y15 y16 y17 y18, LeO (spec_Tiff_rowOf.j2 k y0 y1 y2 y3 y4 y5 y6 y7 y8 y9 y10 y11 y12 y13 y14 y15 y16 y17 y18) (spec_Tiff_rowOf.j2 (k + 1) y0 y1 y2 y3 y4 y5 y6 y7 y8 y9 y10 y11 y12 y13 y14 y15 y16 y17 y18))
  | 0 => ⟨fun _ _ _ _ _ _ _ _ _ _ _ _ _ _ _ _ _ r h => by simp [spec_Tiff_rowOf.l0] at h, fun _ _ _ _ _ _ _ _ _ _ _ _ _ _ _ _ _ _ _ _ r h => by simp [spec_Tiff_rowOf.j1] at h, fun _ _ _ _ _ _ _ _ _ _ _ _ _ _ _ _ _ _ _ r h => by simp [spec_Tiff_rowOf.j2] at h⟩
  | k + 1 => by
    obtain ⟨ih0, ih1, ih2⟩ := spec_Tiff_rowOf.mono_l k
    refine ⟨?_, ?_, ?_⟩
    · intro y0 y1 y2 y3 y4 y5 y6 y7 y8 y9 y10 y11 y12 y13 y14 y15 y16
      unfold spec_Tiff_rowOf.l0
      repeat' first
      | (with_reducible exact ih0 _ _ _ _ _ _ _ _ _ _ _ _ _ _ _ _ _)
      | (with_reducible exact ih1 _ _ _ _ _ _ _ _ _ _ _ _ _ _ _ _ _ _ _ _)
      | (with_reducible exact ih2 _ _ _ _ _ _ _ _ _ _ _ _ _ _ _ _ _ _ _)
      | (with_reducible exact spec_number.mono _ _ _ _)
      | (with_reducible exact LeO.refl _)
      | (with_reducible exact LeO.none _)
      | (with_reducible refine LeO.ite ?_ ?_)
      | (with_reducible refine LeO.bind ?_ (fun _ => ?_))
      | exact ih0 _ _ _ _ _ _ _ _ _ _ _ _ _ _ _ _ _
      | exact ih1 _ _ _ _ _ _ _ _ _ _ _ _ _ _ _ _ _ _ _ _
      | exact ih2 _ _ _ _ _ _ _ _ _ _ _ _ _ _ _ _ _ _ _
      | exact spec_number.mono _ _ _ _
      | exact LeO.none _
      | refine LeO.ite ?_ ?_
      | refine LeO.bind ?_ (fun _ => ?_)
    · intro y0 y1 y2 y3 y4 y5 y6 y7 y8 y9 y10 y11 y12 y13 y14 y15 y16 y17 y18 y19
      unfold spec_Tiff_rowOf.j1
      repeat' first
      | (with_reducible exact ih0 _ _ _ _ _ _ _ _ _ _ _ _ _ _ _ _ _)
      | (with_reducible exact ih1 _ _ _ _ _ _ _ _ _ _ _ _ _ _ _ _ _ _ _ _)
      | (with_reducible exact ih2 _ _ _ _ _ _ _ _ _ _ _ _ _ _ _ _ _ _ _)
      | (with_reducible exact spec_number.mono _ _ _ _)
      | (with_reducible exact LeO.refl _)
      | (with_reducible exact LeO.none _)
      | (with_reducible refine LeO.ite ?_ ?_)
      | (with_reducible refine LeO.bind ?_ (fun _ => ?_))
      | exact ih0 _ _ _ _ _ _ _ _ _ _ _ _ _ _ _ _ _
      | exact ih1 _ _ _ _ _ _ _ _ _ _ _ _ _ _ _ _ _ _ _ _
      | exact ih2 _ _ _ _ _ _ _ _ _ _ _ _ _ _ _ _ _ _ _
      | exact spec_number.mono _ _ _ _
      | exact LeO.none _
      | refine LeO.ite ?_ ?_
      | refine LeO.bind ?_ (fun _ => ?_)
    · intro y0 y1 y2 y3 y4 y5 y6 y7 y8 y9 y10 y11 y12 y13 y14 y15 y16 y17 y18
      unfold spec_Tiff_rowOf.j2
      repeat' first
      | (with_reducible exact ih0 _ _ _ _ _ _ _ _ _ _ _ _ _ _ _ _ _)
      | (with_reducible exact ih1 _ _ _ _ _ _ _ _ _ _ _ _ _ _ _ _ _ _ _ _)
      | (with_reducible exact ih2 _ _ _ _ _ _ _ _ _ _ _ _ _ _ _ _ _ _ _)
      | (with_reducible exact spec_number.mono _ _ _ _)
      | (with_reducible exact LeO.refl _)
      | (with_reducible exact LeO.none _)
      | (with_reducible refine LeO.ite ?_ ?_)
      | (with_reducible refine LeO.bind ?_ (fun _ => ?_))
      | exact ih0 _ _ _ _ _ _ _ _ _ _ _ _ _ _ _ _ _
      | exact ih1 _ _ _ _ _ _ _ _ _ _ _ _ _ _ _ _ _ _ _ _
      | exact ih2 _ _ _ _ _ _ _ _ _ _ _ _ _ _ _ _ _ _ _
      | exact spec_number.mono _ _ _ _
      | exact LeO.none _
      | refine LeO.ite ?_ ?_
      | refine LeO.bind ?_ (fun _ => ?_)
theorem spec_Tiff_rowOf.mono : ∀ a0 a1 a2 a3 a4 a5 a6 a7 a8 a9 a10 a11 k, LeO (spec_Tiff_rowOf.f k a0 a1 a2 a3 a4 a5 a6 a7 a8 a9 a10 a11) (spec_Tiff_rowOf.f (k + 1) a0 a1 a2 a3 a4 a5 a6 a7 a8 a9 a10 a11) := by
  intro a0 a1 a2 a3 a4 a5 a6 a7 a8 a9 a10 a11 k
  obtain ⟨ih0, ih1, ih2⟩ := spec_Tiff_rowOf.mono_l k
  unfold spec_Tiff_rowOf.f
  repeat' first
      | (with_reducible exact ih0 _ _ _ _ _ _ _ _ _ _ _ _ _ _ _ _ _)
      | (with_reducible exact ih1 _ _ _ _ _ _ _ _ _ _ _ _ _ _ _ _ _ _ _ _)
      | (with_reducible exact ih2 _ _ _ _ _ _ _ _ _ _ _ _ _ _ _ _ _ _ _)
      | (with_reducible exact spec_number.mono _ _ _ _)
      | (with_reducible exact LeO.refl _)
      | (with_reducible exact LeO.none _)
      | (with_reducible refine LeO.ite ?_ ?_)
      | (with_reducible refine LeO.bind ?_ (fun _ => ?_))
      | exact ih0 _ _ _ _ _ _ _ _ _ _ _ _ _ _ _ _ _
      | exact ih1 _ _ _ _ _ _ _ _ _ _ _ _ _ _ _ _ _ _ _ _
      | exact ih2 _ _ _ _ _ _ _ _ _ _ _ _ _ _ _ _ _ _ _
      | exact spec_number.mono _ _ _ _
      | exact LeO.none _
      | refine LeO.ite ?_ ?_
      | refine LeO.bind ?_ (fun _ => ?_)
def spec_Tiff_rowOf.T8 : Bool × List (List Nat × List Nat) := (true, [([], []), ([], []), ([1], [1]), ([2], [2]), ([0, 3], [0, 3]), ([4], [4]), ([], []), ([], []), ([7], [7]), ([8], [8]), ([], []), ([], []), ([11], [11]), ([10, 12], [10, 12]), ([13], [13]), ([9, 14], [9, 14]), ([6, 15], [6, 15]), ([16], [16]), ([5, 17], [5, 17]), ([0, 3, 0, 1, 2, 3, 4, 5, 6, 7, 8, 9, 10, 11, 12, 13, 14, 15, 16, 17, 18], [0, 3]), ([19, 18, 0, 1, 2, 3, 4, 5, 6, 7, 8, 9, 10, 11, 12, 13, 14, 15, 16, 17, 18], [18, 19])])
def spec_Tiff_rowOf.B8 : List Nat := [0, 0, 2, 6, 15, 31, 0, 0, 128, 384, 0, 0, 2048, 7168, 15360, 32640, 65472, 131008, 262143, 524287, 1048575]
theorem spec_Tiff_rowOf.tab8 : rtab .any (opsOf Tryd.f16 8) = spec_Tiff_rowOf.T8 := by kernel_rfl
theorem spec_Tiff_rowOf.bits8 : waitsOk spec_Tiff_rowOf.T8.2 spec_Tiff_rowOf.B8 = true := by kernel_rfl
set_option maxHeartbeats 8000000 in
set_option maxRecDepth 100000 in
theorem spec_Tiff_rowOf.calls (k : Nat) (a0_0 : Bool) (a0_1 : Int) (a0_2 : Int) (a0_3 : Int) (a0_4 : Int) (a0_5 : Int) (a0_6 : Int) (a0_7 : Bool) (a0_8 : Int) (a0_9 : Int) (a0_10 : Int) (A1 : Option Addr) (c1 : Nat) (l1 : List Int) (r : List Int) (w : World) (hr1 : Kd.C (Kd.int .i64) w A1 l1.length l1) (hc1 : l1.length ≤ c1) (h : spec_Tiff_rowOf.f k a0_0 a0_1 a0_2 a0_3 a0_4 a0_5 a0_6 a0_7 a0_8 a0_9 a0_10 l1 = some r) :
    Calls Tryd.prog 16 #[.agg #[.bool a0_0, .int .i64 a0_1, .int .i64 a0_2, .int .i64 a0_3, .int .i64 a0_4, .int .i64 a0_5, .int .i64 a0_6, .bool a0_7, .int .i64 a0_8, .int .i64 a0_9, .int .i64 a0_10], .slice A1 l1.length c1] w fun e w' => ∃ v0_ : Value, e = .returned (v0_) ∧ Kd.R (Kd.int .u8) 5 w' w.heap.size (fun _ => True) v0_ r ∧ Below w.heap.size w w' := by
  have hu24 := Tryd.underlying24
  have HR1 := Aside0.mk hr1
  have HC1 := Aside0.mk hc1
  clear hr1 hc1
  have HB := Aside0.mk (Below.refl w.heap.size w)
  have H : ((spec_Tiff_Channels.f a0_0 a0_1 a0_2 a0_3 a0_4 a0_5 a0_6 a0_7 a0_8 a0_9 a0_10).bind fun t133 => (spec_Tiff_rowOf.l0 k l1 (([] : List Int)) t133 l1 (l1.length : Int) 0 a0_0 a0_1 a0_2 a0_3 a0_4 a0_5 a0_6 a0_7 a0_8 a0_9 a0_10)) = some r := h
  clear h
  obtain ⟨y130, hy130⟩ : ∃ y_ : List Int, y_ = (([] : List Int)) := ⟨_, rfl⟩
  replace H : ((spec_Tiff_Channels.f a0_0 a0_1 a0_2 a0_3 a0_4 a0_5 a0_6 a0_7 a0_8 a0_9 a0_10).bind fun t133 => (spec_Tiff_rowOf.l0 k l1 y130 t133 l1 (l1.length : Int) 0 a0_0 a0_1 a0_2 a0_3 a0_4 a0_5 a0_6 a0_7 a0_8 a0_9 a0_10)) = some r := by first | (rw [hy130]; with_reducible exact H) | (have H2_ := (Option.bind_some _ _).symm.trans H; rw [hy130]; with_reducible exact H2_) | (have H2_ := (Option.bind_some _ _).symm.trans H; with_reducible exact H2_) | with_reducible exact H | (rw [hy130]; exact H) | exact H
  have Ny130 := Aside0.mk hy130
  clear hy130
  replace H := Option.bind_eq_some_iff.mp H
  obtain ⟨t133, A30, H⟩ := H
  replace H : (spec_Tiff_rowOf.l0 k l1 y130 t133 l1 (l1.length : Int) 0 a0_0 a0_1 a0_2 a0_3 a0_4 a0_5 a0_6 a0_7 a0_8 a0_9 a0_10) = some r := H
  have A3 := Aside0.mk A30
  clear A30
  have H' := Aside0.mk H
  clear H
  go_enter Tryd.func16, Tryd.ntmps16
  go_wp2_with (first | ((with_reducible refine gate_dst (N := 2) rfl ?_); refine box_event ?hg (N := 2) ?hd (cs := #[.bool a0_0, .int .i64 a0_1, .int .i64 a0_2, .int .i64 a0_3, .int .i64 a0_4, .int .i64 a0_5, .int .i64 a0_6, .bool a0_7, .int .i64 a0_8, .int .i64 a0_9, .int .i64 a0_10]) (t := 24) ?hr ?_; (case hd => rfl); (case hg => rfl); (case hr => first | (go_simp; done) | (go_simp; rfl)); intro gb129 hg w4 hbox hb; have n0_ := Aside0.mk (below_step (by repeat (first | (with_reducible first | exact HB.out | apply below_alloc | apply pw_below_drewN | apply below_drew1) | exact HB.out)) hb); have n1_ := Aside0.mk (hbox); have n2_ := Aside0.mk ((by rw [hg]; exact (below_size (by repeat (first | (with_reducible first | exact HB.out | apply below_alloc | apply pw_below_drewN | apply below_drew1) | exact HB.out))) : w.heap.size ≤ gb129)); have n3_ := Aside0.mk ((by rw [hg]; exact (below_size (by repeat (first | (with_reducible first | exact HB.out | apply below_alloc | apply pw_below_drewN | apply below_drew1) | exact HB.out))) : w.heap.size ≤ gb129)); clear HB; have HB := n0_; have BK129 := n1_; have GW129 := n2_; have GE129 := n3_; clear n0_ n1_ n2_ n3_; clear hb hbox hg) | ((with_reducible refine gate_dst (N := 9) rfl ?_); refine Kd.R_lit (Kd.int .u8) _ 5 ?hg (N := 9) ?hd (xs := ([] : List Int)) (inner := []) (ok := fun _ => True) (okp := fun _ => True) ?hr ?hp (fun _ hk => hk) trivial (Below.refl _ _) (Nat.le_refl _) (by simp) ?_; (case hd => rfl); (case hg => rfl); (case hr => first | (go_simp; done) | (go_simp; rfl)); (case hp => exact (Reps.none _ _)); intro v131 w5 ho6 hb hg_ hnew_; clear hg_ hnew_; (first | rw [← Ny130.out] at ho6 | (simp only [Int.reduceToNat] at ho6; rw [← Ny130.out] at ho6)); have n0_ := Aside0.mk (Kd.R_lower ho6 (below_size (by repeat (first | (with_reducible first | exact HB.out | apply below_alloc | apply pw_below_drewN | apply below_drew1 | refine below_set ?_ GE129.out) | exact HB.out)))); have n1_ := Aside0.mk (blk_below (g := gb129) (o := .cells #[.bool a0_0, .int .i64 a0_1, .int .i64 a0_2, .int .i64 a0_3, .int .i64 a0_4, .int .i64 a0_5, .int .i64 a0_6, .bool a0_7, .int .i64 a0_8, .int .i64 a0_9, .int .i64 a0_10] 24 (0, 0)) (by (with_reducible repeat (first | refine blk_drewN ?_ _ | refine blk_drew ?_ | refine blk_alloc ?_ _)); exact BK129.out) hb); have n2_ := Aside0.mk (below_step (by repeat (first | (with_reducible first | exact HB.out | apply below_alloc | apply pw_below_drewN | apply below_drew1 | refine below_set ?_ GE129.out) | exact HB.out)) hb); clear BK129; clear HB; have HO132 := n0_; have BK129 := n1_; have HB := n2_; clear n0_ n1_ n2_; clear hb ho6; have hcz7_0 : w5.cell? ⟨gb129, 0, none⟩ = some (.bool a0_0) := (blk_cell BK129.out 0).trans rfl; have hcz7_1 : w5.cell? ⟨gb129, 1, none⟩ = some (.int .i64 a0_1) := (blk_cell BK129.out 1).trans rfl; have hcz7_2 : w5.cell? ⟨gb129, 2, none⟩ = some (.int .i64 a0_2) := (blk_cell BK129.out 2).trans rfl; have hcz7_3 : w5.cell? ⟨gb129, 3, none⟩ = some (.int .i64 a0_3) := (blk_cell BK129.out 3).trans rfl; have hcz7_4 : w5.cell? ⟨gb129, 4, none⟩ = some (.int .i64 a0_4) := (blk_cell BK129.out 4).trans rfl; have hcz7_5 : w5.cell? ⟨gb129, 5, none⟩ = some (.int .i64 a0_5) := (blk_cell BK129.out 5).trans rfl; have hcz7_6 : w5.cell? ⟨gb129, 6, none⟩ = some (.int .i64 a0_6) := (blk_cell BK129.out 6).trans rfl; have hcz7_7 : w5.cell? ⟨gb129, 7, none⟩ = some (.bool a0_7) := (blk_cell BK129.out 7).trans rfl; have hcz7_8 : w5.cell? ⟨gb129, 8, none⟩ = some (.int .i64 a0_8) := (blk_cell BK129.out 8).trans rfl; have hcz7_9 : w5.cell? ⟨gb129, 9, none⟩ = some (.int .i64 a0_9) := (blk_cell BK129.out 9).trans rfl; have hcz7_10 : w5.cell? ⟨gb129, 10, none⟩ = some (.int .i64 a0_10) := (blk_cell BK129.out 10).trans rfl; have hfz7_0 := blk_frozen BK129.out 0; have hfz7_1 := blk_frozen BK129.out 1; have hfz7_2 := blk_frozen BK129.out 2; have hfz7_3 := blk_frozen BK129.out 3; have hfz7_4 := blk_frozen BK129.out 4; have hfz7_5 := blk_frozen BK129.out 5; have hfz7_6 := blk_frozen BK129.out 6; have hfz7_7 := blk_frozen BK129.out 7; have hfz7_8 := blk_frozen BK129.out 8; have hfz7_9 := blk_frozen BK129.out 9; have hfz7_10 := blk_frozen BK129.out 10) | ((with_reducible refine gate_callee (f := 15) rfl ?_); refine goesL_ (some 11) rfl rfl Tryd.func15 (by kernel_rfl) rfl #[.agg #[.bool a0_0, .int .i64 a0_1, .int .i64 a0_2, .int .i64 a0_3, .int .i64 a0_4, .int .i64 a0_5, .int .i64 a0_6, .bool a0_7, .int .i64 a0_8, .int .i64 a0_9, .int .i64 a0_10]] rfl (by (try simp only [List.map_toArray, List.map_cons, List.map_nil]); first | done | rfl | (simp only [List.length_drop, List.length_take]; rfl)) ?_; (with_reducible refine (spec_Tiff_Channels.calls a0_0 a0_1 a0_2 a0_3 a0_4 a0_5 a0_6 a0_7 a0_8 a0_9 a0_10 t133 _ A3.out).mono ?_); rintro e w8 ⟨rfl, hb⟩; refine ⟨_, rfl, ?_⟩; have n0_ := Aside0.mk (Kd.R_below (by (with_reducible repeat (first | apply Kd.R_alloc | apply Kd.R_drewN | apply Kd.R_drew)); exact HO132.out) hb); have n1_ := Aside0.mk (blk_below (g := gb129) (o := .cells #[.bool a0_0, .int .i64 a0_1, .int .i64 a0_2, .int .i64 a0_3, .int .i64 a0_4, .int .i64 a0_5, .int .i64 a0_6, .bool a0_7, .int .i64 a0_8, .int .i64 a0_9, .int .i64 a0_10] 24 (0, 0)) (by (with_reducible repeat (first | refine blk_drewN ?_ _ | refine blk_drew ?_ | refine blk_alloc ?_ _)); exact BK129.out) hb); have n2_ := Aside0.mk (below_step (by repeat (first | (with_reducible first | exact HB.out | apply below_alloc | apply pw_below_drewN | apply below_drew1 | refine below_set ?_ GE129.out) | exact HB.out)) hb); clear HO132; clear BK129; clear HB; have HO132 := n0_; have BK129 := n1_; have HB := n2_; clear n0_ n1_ n2_; (try clear hb); (try clear hb2); (try clear hk); (try clear hi)))
  go_loopg [5, 14] k (fun kq v5 v14 w' => ∃ (x5_1 : List Int) (x14_1 : Int), v14 = .int .i64 x14_1 ∧ Aside0 (spec_Tiff_rowOf.l0 kq l1 x5_1 t133 l1 (l1.length : Int) x14_1 a0_0 a0_1 a0_2 a0_3 a0_4 a0_5 a0_6 a0_7 a0_8 a0_9 a0_10 = some r) ∧ Aside0 (kq ≤ k) ∧ Aside0 (Kd.R (Kd.int .u8) 5 w' w.heap.size (fun _ => True) v5 x5_1) ∧ Aside0 (w'.heap[gb129]? = some (.cells #[.bool a0_0, .int .i64 a0_1, .int .i64 a0_2, .int .i64 a0_3, .int .i64 a0_4, .int .i64 a0_5, .int .i64 a0_6, .bool a0_7, .int .i64 a0_8, .int .i64 a0_9, .int .i64 a0_10] 24 (0, 0))) ∧ Aside0 (Below w.heap.size w w'))
  case atStart => exact ⟨(y130), (0), (by first | rfl | (simp; done) | (simp [*]; done)), H', ⟨Nat.le_refl _⟩, ⟨by (with_reducible repeat (first | apply Kd.R_alloc | apply Kd.R_drewN | apply Kd.R_drew)); exact HO132.out⟩, ⟨by (with_reducible repeat (first | refine blk_drewN ?_ _ | refine blk_drew ?_ | refine blk_alloc ?_ _)); exact BK129.out⟩, ⟨by repeat (first | (with_reducible first | exact HB.out | apply below_alloc | apply pw_below_drewN | apply below_drew1 | refine below_set ?_ GE129.out) | exact HB.out)⟩⟩
  case round =>
    clear H'
    try clear c1
    try clear p2
    try clear hcz7_0
    try clear hcz7_1
    try clear hcz7_10
    try clear hcz7_2
    try clear hcz7_3
    try clear hcz7_4
    try clear hcz7_5
    try clear hcz7_6
    try clear hcz7_7
    try clear hcz7_8
    try clear hcz7_9
    try clear hfz7_0
    try clear hfz7_1
    try clear hfz7_10
    try clear hfz7_2
    try clear hfz7_3
    try clear hfz7_4
    try clear hfz7_5
    try clear hfz7_6
    try clear hfz7_7
    try clear hfz7_8
    try clear hfz7_9
    obtain ⟨x5_1, x14_1, rfl, HA, HK1, HO_5, BK129, HB⟩ := hrel
    cases gk with
    | zero => exact absurd HA.out (by simp [spec_Tiff_rowOf.l0])
    | succ k1 =>
      have H := HA.out
      clear HA
      simp only [spec_Tiff_rowOf.l0] at H
      by_cases c9 : x14_1 < (l1.length : Int)
      · rw [if_pos c9] at H
        have c9b0 : decide (x14_1 < (l1.length : Int)) = true := decide_eq_true c9
        clear c9
        by_cases c10 : 0 ≤ x14_1
        · rw [if_pos c10] at H
          have c10b0 : decide (0 ≤ x14_1) = true := decide_eq_true c10
          clear c10
          by_cases c11 : x14_1 < (l1.length : Int)
          · rw [if_pos c11] at H
            have c11b0 : decide (x14_1 < (l1.length : Int)) = true := decide_eq_true c11
            clear c11
            have HC12 := Aside0.mk H
            clear H
            have p134 : 0 ≤ (x14_1 : Int) := of_decide_eq_true (by first | (with_reducible assumption) | assumption)
            have q134 : x14_1 < (l1.length : Int) := of_decide_eq_true (by first | (with_reducible assumption) | assumption)
            obtain ⟨ad134, e134, hx134_0⟩ := Kd.at_int HR1.out x14_1 p134 q134
            cases e134
            replace hx134_0 := (HB.out.cell (World.block_lt_of_cell? w _ hx134_0)).trans hx134_0
            replace p134 := eq_true p134
            replace q134 := eq_true q134
            go_upto_region 6 with (fail)
            go_cut [25] (fun v25 wc => ∃ (kq : Nat) (x25_11 : Bool), v25 = .bool x25_11 ∧ Aside0 (spec_Tiff_rowOf.j1 kq l1 x5_1 t133 x14_1 (rd l1 x14_1) l1 (l1.length : Int) x14_1 x25_11 a0_0 a0_1 a0_2 a0_3 a0_4 a0_5 a0_6 a0_7 a0_8 a0_9 a0_10 = some r) ∧ Aside0 (kq ≤ k1) ∧ Aside0 (Kd.R (Kd.int .u8) 5 wc w.heap.size (fun _ => True) u5 x5_1) ∧ Aside0 (wc.heap[gb129]? = some (.cells #[.bool a0_0, .int .i64 a0_1, .int .i64 a0_2, .int .i64 a0_3, .int .i64 a0_4, .int .i64 a0_5, .int .i64 a0_6, .bool a0_7, .int .i64 a0_8, .int .i64 a0_9, .int .i64 a0_10] 24 (0, 0))) ∧ Aside0 (Below w.heap.size w wc))
            case first =>
              have H := HC12.out
              clear HC12
              by_cases c13 : a0_7 = true
              · subst c13
                have H1 : (spec_Tiff_rowOf.j1 k1 l1 x5_1 t133 x14_1 (rd l1 x14_1) l1 (l1.length : Int) x14_1 (decide (x14_1 ≥ t133)) a0_0 a0_1 a0_2 a0_3 a0_4 a0_5 a0_6 true a0_8 a0_9 a0_10) = some r := by rw [if_pos rfl] at H; exact H
                clear H
                have H := H1
                clear H1
                have H' := Aside0.mk H
                clear H
                have hcz14_0 : wr.cell? ⟨gb129, 0, none⟩ = some (.bool a0_0) := (blk_cell BK129.out 0).trans rfl
                have hcz14_1 : wr.cell? ⟨gb129, 1, none⟩ = some (.int .i64 a0_1) := (blk_cell BK129.out 1).trans rfl
                have hcz14_2 : wr.cell? ⟨gb129, 2, none⟩ = some (.int .i64 a0_2) := (blk_cell BK129.out 2).trans rfl
                have hcz14_3 : wr.cell? ⟨gb129, 3, none⟩ = some (.int .i64 a0_3) := (blk_cell BK129.out 3).trans rfl
                have hcz14_4 : wr.cell? ⟨gb129, 4, none⟩ = some (.int .i64 a0_4) := (blk_cell BK129.out 4).trans rfl
                have hcz14_5 : wr.cell? ⟨gb129, 5, none⟩ = some (.int .i64 a0_5) := (blk_cell BK129.out 5).trans rfl
                have hcz14_6 : wr.cell? ⟨gb129, 6, none⟩ = some (.int .i64 a0_6) := (blk_cell BK129.out 6).trans rfl
                have hcz14_7 : wr.cell? ⟨gb129, 7, none⟩ = some (.bool true) := (blk_cell BK129.out 7).trans rfl
                have hcz14_8 : wr.cell? ⟨gb129, 8, none⟩ = some (.int .i64 a0_8) := (blk_cell BK129.out 8).trans rfl
                have hcz14_9 : wr.cell? ⟨gb129, 9, none⟩ = some (.int .i64 a0_9) := (blk_cell BK129.out 9).trans rfl
                have hcz14_10 : wr.cell? ⟨gb129, 10, none⟩ = some (.int .i64 a0_10) := (blk_cell BK129.out 10).trans rfl
                have hfz14_0 := blk_frozen BK129.out 0
                have hfz14_1 := blk_frozen BK129.out 1
                have hfz14_2 := blk_frozen BK129.out 2
                have hfz14_3 := blk_frozen BK129.out 3
                have hfz14_4 := blk_frozen BK129.out 4
                have hfz14_5 := blk_frozen BK129.out 5
                have hfz14_6 := blk_frozen BK129.out 6
                have hfz14_7 := blk_frozen BK129.out 7
                have hfz14_8 := blk_frozen BK129.out 8
                have hfz14_9 := blk_frozen BK129.out 9
                have hfz14_10 := blk_frozen BK129.out 10
                go_wp2
                go_meet
                case rel => exact ⟨_, (decide (x14_1 ≥ t133)), (by first | rfl | (simp; done) | (simp [*]; done)), H', ⟨by have := HK1.out; first | omega | exact Nat.le_refl _⟩, ⟨by (with_reducible repeat (first | apply Kd.R_alloc | apply Kd.R_drewN | apply Kd.R_drew)); exact HO_5.out⟩, ⟨by (with_reducible repeat (first | refine blk_drewN ?_ _ | refine blk_drew ?_ | refine blk_alloc ?_ _)); exact BK129.out⟩, ⟨by repeat (first | (with_reducible first | exact HB.out | apply below_alloc | apply pw_below_drewN | apply below_drew1 | refine below_set ?_ GE129.out) | exact HB.out)⟩⟩
              · replace c13 := Bool.eq_false_iff.mpr c13
                subst c13
                have H1 : (spec_Tiff_rowOf.j1 k1 l1 x5_1 t133 x14_1 (rd l1 x14_1) l1 (l1.length : Int) x14_1 false a0_0 a0_1 a0_2 a0_3 a0_4 a0_5 a0_6 false a0_8 a0_9 a0_10) = some r := by rw [if_neg (show ¬ (false = true) by decide)] at H; exact H
                clear H
                have H := H1
                clear H1
                have H' := Aside0.mk H
                clear H
                have hcz15_0 : wr.cell? ⟨gb129, 0, none⟩ = some (.bool a0_0) := (blk_cell BK129.out 0).trans rfl
                have hcz15_1 : wr.cell? ⟨gb129, 1, none⟩ = some (.int .i64 a0_1) := (blk_cell BK129.out 1).trans rfl
                have hcz15_2 : wr.cell? ⟨gb129, 2, none⟩ = some (.int .i64 a0_2) := (blk_cell BK129.out 2).trans rfl
                have hcz15_3 : wr.cell? ⟨gb129, 3, none⟩ = some (.int .i64 a0_3) := (blk_cell BK129.out 3).trans rfl
                have hcz15_4 : wr.cell? ⟨gb129, 4, none⟩ = some (.int .i64 a0_4) := (blk_cell BK129.out 4).trans rfl
                have hcz15_5 : wr.cell? ⟨gb129, 5, none⟩ = some (.int .i64 a0_5) := (blk_cell BK129.out 5).trans rfl
                have hcz15_6 : wr.cell? ⟨gb129, 6, none⟩ = some (.int .i64 a0_6) := (blk_cell BK129.out 6).trans rfl
                have hcz15_7 : wr.cell? ⟨gb129, 7, none⟩ = some (.bool false) := (blk_cell BK129.out 7).trans rfl
                have hcz15_8 : wr.cell? ⟨gb129, 8, none⟩ = some (.int .i64 a0_8) := (blk_cell BK129.out 8).trans rfl
                have hcz15_9 : wr.cell? ⟨gb129, 9, none⟩ = some (.int .i64 a0_9) := (blk_cell BK129.out 9).trans rfl
                have hcz15_10 : wr.cell? ⟨gb129, 10, none⟩ = some (.int .i64 a0_10) := (blk_cell BK129.out 10).trans rfl
                have hfz15_0 := blk_frozen BK129.out 0
                have hfz15_1 := blk_frozen BK129.out 1
                have hfz15_2 := blk_frozen BK129.out 2
                have hfz15_3 := blk_frozen BK129.out 3
                have hfz15_4 := blk_frozen BK129.out 4
                have hfz15_5 := blk_frozen BK129.out 5
                have hfz15_6 := blk_frozen BK129.out 6
                have hfz15_7 := blk_frozen BK129.out 7
                have hfz15_8 := blk_frozen BK129.out 8
                have hfz15_9 := blk_frozen BK129.out 9
                have hfz15_10 := blk_frozen BK129.out 10
                go_wp2
                go_meet
                case rel => exact ⟨_, (false), (by first | rfl | (simp; done) | (simp [*]; done)), H', ⟨by have := HK1.out; first | omega | exact Nat.le_refl _⟩, ⟨by (with_reducible repeat (first | apply Kd.R_alloc | apply Kd.R_drewN | apply Kd.R_drew)); exact HO_5.out⟩, ⟨by (with_reducible repeat (first | refine blk_drewN ?_ _ | refine blk_drew ?_ | refine blk_alloc ?_ _)); exact BK129.out⟩, ⟨by repeat (first | (with_reducible first | exact HB.out | apply below_alloc | apply pw_below_drewN | apply below_drew1 | refine below_set ?_ GE129.out) | exact HB.out)⟩⟩
            case rest =>
              clear HC12
              try clear c1
              try clear p1
              try clear q1
              try clear hx1
              try clear p2
              try clear c9
              try clear c9b0
              try clear c10
              try clear c10b0
              try clear c11
              try clear c11b0
              try clear c13
              try clear p13
              try clear q13
              try clear hx13
              try clear c15
              try clear hcz14_0
              try clear hcz14_1
              try clear hcz14_10
              try clear hcz14_2
              try clear hcz14_3
              try clear hcz14_4
              try clear hcz14_5
              try clear hcz14_6
              try clear hcz14_7
              try clear hcz14_8
              try clear hcz14_9
              try clear hcz15_0
              try clear hcz15_1
              try clear hcz15_10
              try clear hcz15_2
              try clear hcz15_3
              try clear hcz15_4
              try clear hcz15_5
              try clear hcz15_6
              try clear hcz15_7
              try clear hcz15_8
              try clear hcz15_9
              try clear hcz7_0
              try clear hcz7_1
              try clear hcz7_10
              try clear hcz7_2
              try clear hcz7_3
              try clear hcz7_4
              try clear hcz7_5
              try clear hcz7_6
              try clear hcz7_7
              try clear hcz7_8
              try clear hcz7_9
              try clear hfz14_0
              try clear hfz14_1
              try clear hfz14_10
              try clear hfz14_2
              try clear hfz14_3
              try clear hfz14_4
              try clear hfz14_5
              try clear hfz14_6
              try clear hfz14_7
              try clear hfz14_8
              try clear hfz14_9
              try clear hfz15_0
              try clear hfz15_1
              try clear hfz15_10
              try clear hfz15_2
              try clear hfz15_3
              try clear hfz15_4
              try clear hfz15_5
              try clear hfz15_6
              try clear hfz15_7
              try clear hfz15_8
              try clear hfz15_9
              try clear hfz7_0
              try clear hfz7_1
              try clear hfz7_10
              try clear hfz7_2
              try clear hfz7_3
              try clear hfz7_4
              try clear hfz7_5
              try clear hfz7_6
              try clear hfz7_7
              try clear hfz7_8
              try clear hfz7_9
              try clear hx134_0
              try clear p134
              try clear p2
              try clear q134
              obtain ⟨kq, x25_11, rfl, HA, HJ11, HO_5, BK129, HB⟩ := hcut
              cases kq with
              | zero => exact absurd HA.out (by simp [spec_Tiff_rowOf.j1])
              | succ kj11 =>
                have H := HA.out
                clear HA
                simp only [spec_Tiff_rowOf.j1] at H
                have HC16 := Aside0.mk H
                clear H
                go_upto_if 25 with (fail)
                go_cut [8] (fun v8 wc => ∃ (kq : Nat) (x8_15 : Int), v8 = .int .i64 x8_15 ∧ Aside0 (spec_Tiff_rowOf.j2 kq l1 x5_1 t133 x14_1 x8_15 l1 (l1.length : Int) x14_1 a0_0 a0_1 a0_2 a0_3 a0_4 a0_5 a0_6 a0_7 a0_8 a0_9 a0_10 = some r) ∧ Aside0 (kq ≤ kj11) ∧ Aside0 (Kd.R (Kd.int .u8) 5 wc w.heap.size (fun _ => True) u5 x5_1) ∧ Aside0 (wc.heap[gb129]? = some (.cells #[.bool a0_0, .int .i64 a0_1, .int .i64 a0_2, .int .i64 a0_3, .int .i64 a0_4, .int .i64 a0_5, .int .i64 a0_6, .bool a0_7, .int .i64 a0_8, .int .i64 a0_9, .int .i64 a0_10] 24 (0, 0))) ∧ Aside0 (Below w.heap.size w wc))
                case first =>
                  have H := HC16.out
                  clear HC16
                  by_cases c17 : x25_11 = true
                  · subst c17
                    have H1 : (if 0 ≤ (wrap64 (x14_1 - t133)) then (if (wrap64 (x14_1 - t133)) < (l1.length : Int) then (spec_Tiff_rowOf.j2 kj11 l1 x5_1 t133 x14_1 (wrap64 ((rd l1 x14_1) - (rd l1 (wrap64 (x14_1 - t133))))) l1 (l1.length : Int) x14_1 a0_0 a0_1 a0_2 a0_3 a0_4 a0_5 a0_6 a0_7 a0_8 a0_9 a0_10) else (none)) else (none)) = some r := by rw [if_pos rfl] at H; exact H
                    clear H
                    have H := H1
                    clear H1
                    obtain ⟨ji18, hji18⟩ : ∃ j_ : Int, (wrap64 (x14_1 - t133)) = j_ := ⟨_, rfl⟩
                    replace H : (if 0 ≤ (ji18) then (if (ji18) < (l1.length : Int) then (spec_Tiff_rowOf.j2 kj11 l1 x5_1 t133 x14_1 (wrap64 ((rd l1 x14_1) - (rd l1 (ji18)))) l1 (l1.length : Int) x14_1 a0_0 a0_1 a0_2 a0_3 a0_4 a0_5 a0_6 a0_7 a0_8 a0_9 a0_10) else (none)) else (none)) = some r := by first | (rw [hji18] at H; exact H) | (simp only [hji18] at H ⊢; exact H)
                    have hji18w : (IntKind.i64.wrap (x14_1 - t133)) = ji18 := (i64_w _).trans hji18
                    by_cases c19 : 0 ≤ (ji18)
                    · rw [if_pos c19] at H
                      have c19b0 : decide (0 ≤ (ji18)) = true := decide_eq_true c19
                      clear c19
                      (first | rw [c19b0] | (simp only [i64_w, i32_w]; rw [c19b0]) | skip)
                      by_cases c20 : (ji18) < (l1.length : Int)
                      · rw [if_pos c20] at H
                        have c20b0 : decide ((ji18) < (l1.length : Int)) = true := decide_eq_true c20
                        clear c20
                        have H' := Aside0.mk H
                        clear H
                        have p135 : 0 ≤ ((ji18) : Int) := of_decide_eq_true (by first | (with_reducible assumption) | assumption)
                        have q135 : (ji18) < (l1.length : Int) := of_decide_eq_true (by first | (with_reducible assumption) | assumption)
                        obtain ⟨ad135, e135, hx135_0⟩ := Kd.at_int HR1.out (ji18) p135 q135
                        obtain rfl : ad134 = ad135 := (by injection e135)
                        replace hx135_0 := (HB.out.cell (World.block_lt_of_cell? w _ hx135_0)).trans hx135_0
                        replace p135 := eq_true p135
                        replace q135 := eq_true q135
                        go_wp2
                        go_meet
                        case rel => exact ⟨_, (wrap64 ((rd l1 x14_1) - (rd l1 (ji18)))), (by first | rfl | (simp; done) | (simp only [← hji18] <;> (first | rfl | simp)) | (simp [*]; done)), H', ⟨by have := HK1.out; have := HJ11.out; first | omega | exact Nat.le_refl _⟩, ⟨by (with_reducible repeat (first | apply Kd.R_alloc | apply Kd.R_drewN | apply Kd.R_drew)); exact HO_5.out⟩, ⟨by (with_reducible repeat (first | refine blk_drewN ?_ _ | refine blk_drew ?_ | refine blk_alloc ?_ _)); exact BK129.out⟩, ⟨by repeat (first | (with_reducible first | exact HB.out | apply below_alloc | apply pw_below_drewN | apply below_drew1 | refine below_set ?_ GE129.out) | exact HB.out)⟩⟩
                      · rw [if_neg c20] at H
                        exact absurd H (by simp)
                    · rw [if_neg c19] at H
                      exact absurd H (by simp)
                  · replace c17 := Bool.eq_false_iff.mpr c17
                    subst c17
                    have H1 : (spec_Tiff_rowOf.j2 kj11 l1 x5_1 t133 x14_1 (rd l1 x14_1) l1 (l1.length : Int) x14_1 a0_0 a0_1 a0_2 a0_3 a0_4 a0_5 a0_6 a0_7 a0_8 a0_9 a0_10) = some r := by rw [if_neg (show ¬ (false = true) by decide)] at H; exact H
                    clear H
                    have H := H1
                    clear H1
                    have H' := Aside0.mk H
                    clear H
                    go_wp2
                    go_meet
                    case rel => exact ⟨_, ((rd l1 x14_1)), (by first | rfl | (simp; done) | (simp [*]; done)), H', ⟨by have := HK1.out; have := HJ11.out; first | omega | exact Nat.le_refl _⟩, ⟨by (with_reducible repeat (first | apply Kd.R_alloc | apply Kd.R_drewN | apply Kd.R_drew)); exact HO_5.out⟩, ⟨by (with_reducible repeat (first | refine blk_drewN ?_ _ | refine blk_drew ?_ | refine blk_alloc ?_ _)); exact BK129.out⟩, ⟨by repeat (first | (with_reducible first | exact HB.out | apply below_alloc | apply pw_below_drewN | apply below_drew1 | refine below_set ?_ GE129.out) | exact HB.out)⟩⟩
                case rest =>
                  clear HC16
                  try clear c1
                  try clear p1
                  try clear q1
                  try clear hx1
                  try clear c2
                  try clear p2
                  try clear p6
                  try clear c9
                  try clear c9b0
                  try clear c10
                  try clear c10b0
                  try clear c11
                  try clear c11b0
                  try clear c13
                  try clear p13
                  try clear q13
                  try clear hx13
                  try clear c15
                  try clear c16
                  try clear c17
                  try clear c19
                  try clear c19b0
                  try clear c20
                  try clear c20b0
                  try clear hcz14_0
                  try clear hcz14_1
                  try clear hcz14_10
                  try clear hcz14_2
                  try clear hcz14_3
                  try clear hcz14_4
                  try clear hcz14_5
                  try clear hcz14_6
                  try clear hcz14_7
                  try clear hcz14_8
                  try clear hcz14_9
                  try clear hcz15_0
                  try clear hcz15_1
                  try clear hcz15_10
                  try clear hcz15_2
                  try clear hcz15_3
                  try clear hcz15_4
                  try clear hcz15_5
                  try clear hcz15_6
                  try clear hcz15_7
                  try clear hcz15_8
                  try clear hcz15_9
                  try clear hcz7_0
                  try clear hcz7_1
                  try clear hcz7_10
                  try clear hcz7_2
                  try clear hcz7_3
                  try clear hcz7_4
                  try clear hcz7_5
                  try clear hcz7_6
                  try clear hcz7_7
                  try clear hcz7_8
                  try clear hcz7_9
                  try clear hfz14_0
                  try clear hfz14_1
                  try clear hfz14_10
                  try clear hfz14_2
                  try clear hfz14_3
                  try clear hfz14_4
                  try clear hfz14_5
                  try clear hfz14_6
                  try clear hfz14_7
                  try clear hfz14_8
                  try clear hfz14_9
                  try clear hfz15_0
                  try clear hfz15_1
                  try clear hfz15_10
                  try clear hfz15_2
                  try clear hfz15_3
                  try clear hfz15_4
                  try clear hfz15_5
                  try clear hfz15_6
                  try clear hfz15_7
                  try clear hfz15_8
                  try clear hfz15_9
                  try clear hfz7_0
                  try clear hfz7_1
                  try clear hfz7_10
                  try clear hfz7_2
                  try clear hfz7_3
                  try clear hfz7_4
                  try clear hfz7_5
                  try clear hfz7_6
                  try clear hfz7_7
                  try clear hfz7_8
                  try clear hfz7_9
                  try clear hx134_0
                  try clear hx135_0
                  try clear p1
                  try clear p13
                  try clear p134
                  try clear p135
                  try clear p2
                  try clear q1
                  try clear q13
                  try clear q134
                  try clear q135
                  obtain ⟨kq, x8_15, rfl, HA, HJ15, HO_5, BK129, HB⟩ := hcut
                  cases kq with
                  | zero => exact absurd HA.out (by simp [spec_Tiff_rowOf.j2])
                  | succ kj15 =>
                    have H := HA.out
                    clear HA
                    simp only [spec_Tiff_rowOf.j2] at H
                    by_cases c21 : a0_5 = 16
                    · rw [if_pos c21] at H
                      have c21b0 : (a0_5 == 16) = true := beq_iff_eq.mpr c21
                      have c21b1 : (a0_5 != 16) = false := bne_eq_false_iff_eq.mpr c21
                      clear c21
                      replace H := Option.bind_eq_some_iff.mp H
                      obtain ⟨t136, A220, H⟩ := H
                      replace H : (if x5_1.length + t136.length < 140737488355328 then (spec_Tiff_rowOf.l0 kj15 l1 (x5_1 ++ t136) t133 l1 (l1.length : Int) (wrap64 (x14_1 + 1)) a0_0 a0_1 a0_2 a0_3 a0_4 a0_5 a0_6 a0_7 a0_8 a0_9 a0_10) else (none)) = some r := H
                      have A22 := Aside0.mk A220
                      clear A220
                      by_cases c23 : x5_1.length + t136.length < 140737488355328
                      · rw [if_pos c23] at H
                        have LMc23 := Aside0.mk c23
                        clear c23
                        obtain ⟨y139, hy139⟩ : ∃ y_ : List Int, y_ = (x5_1 ++ t136) := ⟨_, rfl⟩
                        replace H : (spec_Tiff_rowOf.l0 kj15 l1 y139 t133 l1 (l1.length : Int) (wrap64 (x14_1 + 1)) a0_0 a0_1 a0_2 a0_3 a0_4 a0_5 a0_6 a0_7 a0_8 a0_9 a0_10) = some r := by first | (rw [hy139]; with_reducible exact H) | (have H2_ := (Option.bind_some _ _).symm.trans H; rw [hy139]; with_reducible exact H2_) | (have H2_ := (Option.bind_some _ _).symm.trans H; with_reducible exact H2_) | with_reducible exact H | (rw [hy139]; exact H) | exact H
                        have Ny139 := Aside0.mk hy139
                        clear hy139
                        have H' := Aside0.mk H
                        clear H
                        have hcz24_0 : wc.cell? ⟨gb129, 0, none⟩ = some (.bool a0_0) := (blk_cell BK129.out 0).trans rfl
                        have hcz24_1 : wc.cell? ⟨gb129, 1, none⟩ = some (.int .i64 a0_1) := (blk_cell BK129.out 1).trans rfl
                        have hcz24_2 : wc.cell? ⟨gb129, 2, none⟩ = some (.int .i64 a0_2) := (blk_cell BK129.out 2).trans rfl
                        have hcz24_3 : wc.cell? ⟨gb129, 3, none⟩ = some (.int .i64 a0_3) := (blk_cell BK129.out 3).trans rfl
                        have hcz24_4 : wc.cell? ⟨gb129, 4, none⟩ = some (.int .i64 a0_4) := (blk_cell BK129.out 4).trans rfl
                        have hcz24_5 : wc.cell? ⟨gb129, 5, none⟩ = some (.int .i64 a0_5) := (blk_cell BK129.out 5).trans rfl
                        have hcz24_6 : wc.cell? ⟨gb129, 6, none⟩ = some (.int .i64 a0_6) := (blk_cell BK129.out 6).trans rfl
                        have hcz24_7 : wc.cell? ⟨gb129, 7, none⟩ = some (.bool a0_7) := (blk_cell BK129.out 7).trans rfl
                        have hcz24_8 : wc.cell? ⟨gb129, 8, none⟩ = some (.int .i64 a0_8) := (blk_cell BK129.out 8).trans rfl
                        have hcz24_9 : wc.cell? ⟨gb129, 9, none⟩ = some (.int .i64 a0_9) := (blk_cell BK129.out 9).trans rfl
                        have hcz24_10 : wc.cell? ⟨gb129, 10, none⟩ = some (.int .i64 a0_10) := (blk_cell BK129.out 10).trans rfl
                        have hfz24_0 := blk_frozen BK129.out 0
                        have hfz24_1 := blk_frozen BK129.out 1
                        have hfz24_2 := blk_frozen BK129.out 2
                        have hfz24_3 := blk_frozen BK129.out 3
                        have hfz24_4 := blk_frozen BK129.out 4
                        have hfz24_5 := blk_frozen BK129.out 5
                        have hfz24_6 := blk_frozen BK129.out 6
                        have hfz24_7 := blk_frozen BK129.out 7
                        have hfz24_8 := blk_frozen BK129.out 8
                        have hfz24_9 := blk_frozen BK129.out 9
                        have hfz24_10 := blk_frozen BK129.out 10
                        go_wp2_with (first | ((with_reducible refine gate_callee (f := 19) rfl ?_); refine goesL_ (some 63) rfl rfl Tryd.func19 (by kernel_rfl) rfl #[.bool a0_0, .int .i64 2, .int .i64 (Go.bits .and .i64 x8_15 65535)] rfl (by (try simp only [List.map_toArray, List.map_cons, List.map_nil]); first | done | rfl | (simp only [List.length_drop, List.length_take]; rfl)) ?_; (with_reducible refine (spec_number.calls kj15 a0_0 2 (Go.bits .and .i64 x8_15 65535) t136 _ A22.out).mono ?_); rintro e w25 ⟨v137, rfl, ho0, hb⟩; refine ⟨_, rfl, ?_⟩; have n0_ := Aside0.mk (Kd.R_elder' (by (with_reducible repeat (first | apply Kd.R_alloc | apply Kd.R_drewN | apply Kd.R_drew)); exact HO_5.out) (Kd.R_base ho0) hb); have n1_ := Aside0.mk (Kd.R_lower (Kd.R_new' ho0 (Kd.R_lt (by (with_reducible repeat (first | apply Kd.R_alloc | apply Kd.R_drewN | apply Kd.R_drew)); exact HO_5.out))) (below_size (by repeat (first | (with_reducible first | exact HB.out | apply below_alloc | apply pw_below_drewN | apply below_drew1 | refine below_set ?_ GE129.out) | exact HB.out)))); have n2_ := Aside0.mk (blk_below (g := gb129) (o := .cells #[.bool a0_0, .int .i64 a0_1, .int .i64 a0_2, .int .i64 a0_3, .int .i64 a0_4, .int .i64 a0_5, .int .i64 a0_6, .bool a0_7, .int .i64 a0_8, .int .i64 a0_9, .int .i64 a0_10] 24 (0, 0)) (by (with_reducible repeat (first | refine blk_drewN ?_ _ | refine blk_drew ?_ | refine blk_alloc ?_ _)); exact BK129.out) hb); have n3_ := Aside0.mk (below_step (by repeat (first | (with_reducible first | exact HB.out | apply below_alloc | apply pw_below_drewN | apply below_drew1 | refine below_set ?_ GE129.out) | exact HB.out)) hb); clear HO_5; clear BK129; clear HB; have HO_5 := n0_; have HO138 := n1_; have BK129 := n2_; have HB := n3_; clear n0_ n1_ n2_ n3_; (try clear hb); (try clear hb2); (try clear hk); (try clear hi); (try clear ho0); obtain ⟨Ao27, co27, eo27⟩ := Kd.R_slice HO138.out; subst eo27) | ((with_reducible refine gate_builtin (b := .append) (xs := #[.tmp 58, .tmp 63]) rfl ?_); at_builtin; refine Kd.R_append_rows (Kd.int .u8) (w0 := w) w.heap.size rfl (.tmp 58) (.tmp 63) 26 5 (.int .u8 0) 1 rfl Tryd.underlying26 info5 rfl (by decide) (by omega) u5 x5_1 t136 _ _ _ (fun k_ => some k_ ≠ (.slice Ao27 t136.length co27 : Value).ownBlock) (fun _ => False) rfl rfl ?aO ?aR (fun _ _ h => h) (fun _ h => h.elim) ?aF ?aB ?aS ?aL ?_; (case aR => repeat (first | exact (Kd.R_reads' HO138.out).2.2 | (with_reducible refine Kd.C_alloc ?_ _) | (with_reducible refine Kd.C_drewN ?_ _) | (with_reducible refine Kd.C_drew ?_))); (case aB => exact (by repeat (first | (with_reducible first | exact HB.out | apply below_alloc | apply pw_below_drewN | apply below_drew1 | refine below_set ?_ GE129.out) | exact HB.out))); (case aF => exact (fun k_ hk => Kd.fresh' (Kd.R_lt (by (with_reducible repeat (first | apply Kd.R_alloc | apply Kd.R_drewN | apply Kd.R_drew)); exact HO138.out)) k_ hk)); (case aO => exact (by (with_reducible repeat (first | apply Kd.R_alloc | apply Kd.R_drewN | apply Kd.R_drew)); exact Kd.R_mono HO_5.out (fun _ hk => hk.2))); (case aS => exact (below_size (by repeat (first | (with_reducible first | exact HB.out | apply below_alloc | apply pw_below_drewN | apply below_drew1 | refine below_set ?_ GE129.out) | exact HB.out)))); (case aL => have := LMc23.out; omega); intro v140 w26 ho hb hg hat; rw [← Ny139.out] at ho; have n0_ := Aside0.mk (blk_grown (g := gb129) (o := .cells #[.bool a0_0, .int .i64 a0_1, .int .i64 a0_2, .int .i64 a0_3, .int .i64 a0_4, .int .i64 a0_5, .int .i64 a0_6, .bool a0_7, .int .i64 a0_8, .int .i64 a0_9, .int .i64 a0_10] 24 (0, 0)) (by (with_reducible repeat (first | refine blk_drewN ?_ _ | refine blk_drew ?_ | refine blk_alloc ?_ _)); exact BK129.out) hg (Kd.R_ne HO_5.out BK129.out (by decide))); have n1_ := Aside0.mk (Kd.R_after (ok := (fun _ => True)) (by (with_reducible repeat (first | apply Kd.R_alloc | apply Kd.R_drewN | apply Kd.R_drew)); exact HO138.out) hg hat); have n2_ := Aside0.mk (hb); have n3_ := Aside0.mk (ho); clear BK129; clear HO138; clear HB; clear HO_5; have BK129 := n0_; have HO138 := n1_; have HB := n2_; have HO141 := n3_; clear n0_ n1_ n2_ n3_; clear ho hb hg hat))
                        go_roundg kj15
                        case measure => have := HK1.out; have := HJ11.out; have := HJ15.out; omega
                        case rel => exact ⟨(y139), (wrap64 (x14_1 + 1)), (by first | rfl | (simp; done) | (simp [*]; done)), H', ⟨by have := HK1.out; have := HJ11.out; have := HJ15.out; omega⟩, ⟨by (with_reducible repeat (first | apply Kd.R_alloc | apply Kd.R_drewN | apply Kd.R_drew)); exact Kd.R_mono HO141.out (fun _ hk => trivial)⟩, ⟨by (with_reducible repeat (first | refine blk_drewN ?_ _ | refine blk_drew ?_ | refine blk_alloc ?_ _)); exact BK129.out⟩, ⟨by repeat (first | (with_reducible first | exact HB.out | apply below_alloc | apply pw_below_drewN | apply below_drew1 | refine below_set ?_ GE129.out) | exact HB.out)⟩⟩
                      · rw [if_neg c23] at H
                        exact absurd H (by simp)
                    · rw [if_neg c21] at H
                      have c21b0 : (a0_5 == 16) = false := beq_eq_false_iff_ne.mpr c21
                      have c21b1 : (a0_5 != 16) = true := bne_iff_ne.mpr c21
                      by_cases c28 : a0_5 = 8
                      · rw [if_pos c28] at H
                        have c28b0 : (a0_5 == 8) = true := beq_iff_eq.mpr c28
                        have c28b1 : (a0_5 != 8) = false := bne_eq_false_iff_eq.mpr c28
                        clear c28
                        by_cases c29 : x5_1.length < 140737488355328
                        · rw [if_pos c29] at H
                          have LMc29 := Aside0.mk c29
                          clear c29
                          obtain ⟨y142, hy142⟩ : ∃ y_ : List Int, y_ = (x5_1 ++ [(x8_15) % 256]) := ⟨_, rfl⟩
                          replace H : (spec_Tiff_rowOf.l0 kj15 l1 y142 t133 l1 (l1.length : Int) (wrap64 (x14_1 + 1)) a0_0 a0_1 a0_2 a0_3 a0_4 a0_5 a0_6 a0_7 a0_8 a0_9 a0_10) = some r := by first | (rw [hy142]; with_reducible exact H) | (have H2_ := (Option.bind_some _ _).symm.trans H; rw [hy142]; with_reducible exact H2_) | (have H2_ := (Option.bind_some _ _).symm.trans H; with_reducible exact H2_) | with_reducible exact H | (rw [hy142]; exact H) | exact H
                          have Ny142 := Aside0.mk hy142
                          clear hy142
                          have H' := Aside0.mk H
                          clear H
                          have hcz30_0 : wc.cell? ⟨gb129, 0, none⟩ = some (.bool a0_0) := (blk_cell BK129.out 0).trans rfl
                          have hcz30_1 : wc.cell? ⟨gb129, 1, none⟩ = some (.int .i64 a0_1) := (blk_cell BK129.out 1).trans rfl
                          have hcz30_2 : wc.cell? ⟨gb129, 2, none⟩ = some (.int .i64 a0_2) := (blk_cell BK129.out 2).trans rfl
                          have hcz30_3 : wc.cell? ⟨gb129, 3, none⟩ = some (.int .i64 a0_3) := (blk_cell BK129.out 3).trans rfl
                          have hcz30_4 : wc.cell? ⟨gb129, 4, none⟩ = some (.int .i64 a0_4) := (blk_cell BK129.out 4).trans rfl
                          have hcz30_5 : wc.cell? ⟨gb129, 5, none⟩ = some (.int .i64 a0_5) := (blk_cell BK129.out 5).trans rfl
                          have hcz30_6 : wc.cell? ⟨gb129, 6, none⟩ = some (.int .i64 a0_6) := (blk_cell BK129.out 6).trans rfl
                          have hcz30_7 : wc.cell? ⟨gb129, 7, none⟩ = some (.bool a0_7) := (blk_cell BK129.out 7).trans rfl
                          have hcz30_8 : wc.cell? ⟨gb129, 8, none⟩ = some (.int .i64 a0_8) := (blk_cell BK129.out 8).trans rfl
                          have hcz30_9 : wc.cell? ⟨gb129, 9, none⟩ = some (.int .i64 a0_9) := (blk_cell BK129.out 9).trans rfl
                          have hcz30_10 : wc.cell? ⟨gb129, 10, none⟩ = some (.int .i64 a0_10) := (blk_cell BK129.out 10).trans rfl
                          have hfz30_0 := blk_frozen BK129.out 0
                          have hfz30_1 := blk_frozen BK129.out 1
                          have hfz30_2 := blk_frozen BK129.out 2
                          have hfz30_3 := blk_frozen BK129.out 3
                          have hfz30_4 := blk_frozen BK129.out 4
                          have hfz30_5 := blk_frozen BK129.out 5
                          have hfz30_6 := blk_frozen BK129.out 6
                          have hfz30_7 := blk_frozen BK129.out 7
                          have hfz30_8 := blk_frozen BK129.out 8
                          have hfz30_9 := blk_frozen BK129.out 9
                          have hfz30_10 := blk_frozen BK129.out 10
                          go_wp2_with (first | ((with_reducible refine gate_builtin (b := .append) (xs := #[.tmp 69, .tmp 72]) rfl ?_); at_builtin; refine Kd.R_append (Kd.int .u8) (w0 := w) w.heap.size rfl (.tmp 69) (.tmp 72) 26 5 (.int .u8 0) 1 rfl Tryd.underlying26 info5 rfl (by decide) (by omega) u5 x5_1 ((x8_15) % 256) [.int .u8 ((x8_15) % 256)] (fun _ => True) (fun _ => False) rfl rfl ?aP (fun _ hk => hk.elim) ?aF ?aO ?aB ?aS ?aL ?_; (case aP => exact rfl); (case aB => exact (by repeat (first | (with_reducible first | exact HB.out | apply below_alloc | apply pw_below_drewN | apply below_drew1 | refine below_set ?_ GE129.out) | exact HB.out))); (case aF => exact (fun _ _ => trivial)); (case aO => exact (by (with_reducible repeat (first | apply Kd.R_alloc | apply Kd.R_drewN | apply Kd.R_drew)); exact HO_5.out)); (case aS => exact (below_size (by repeat (first | (with_reducible first | exact HB.out | apply below_alloc | apply pw_below_drewN | apply below_drew1 | refine below_set ?_ GE129.out) | exact HB.out)))); (case aL => have := LMc29.out; omega); intro v143 w31 ho hb hg hat; rw [← Ny142.out] at ho; have n0_ := Aside0.mk (blk_grown (g := gb129) (o := .cells #[.bool a0_0, .int .i64 a0_1, .int .i64 a0_2, .int .i64 a0_3, .int .i64 a0_4, .int .i64 a0_5, .int .i64 a0_6, .bool a0_7, .int .i64 a0_8, .int .i64 a0_9, .int .i64 a0_10] 24 (0, 0)) (by (with_reducible repeat (first | refine blk_drewN ?_ _ | refine blk_drew ?_ | refine blk_alloc ?_ _)); exact BK129.out) hg (Kd.R_ne HO_5.out BK129.out (by decide))); have n1_ := Aside0.mk (hb); have n2_ := Aside0.mk (ho); clear BK129; clear HB; clear HO_5; have BK129 := n0_; have HB := n1_; have HO144 := n2_; clear n0_ n1_ n2_; clear ho hb hg hat))
                          go_roundg kj15
                          case measure => have := HK1.out; have := HJ11.out; have := HJ15.out; omega
                          case rel => exact ⟨(y142), (wrap64 (x14_1 + 1)), (by first | rfl | (simp; done) | (simp [*]; done)), H', ⟨by have := HK1.out; have := HJ11.out; have := HJ15.out; omega⟩, ⟨by (with_reducible repeat (first | apply Kd.R_alloc | apply Kd.R_drewN | apply Kd.R_drew)); exact HO144.out⟩, ⟨by (with_reducible repeat (first | refine blk_drewN ?_ _ | refine blk_drew ?_ | refine blk_alloc ?_ _)); exact BK129.out⟩, ⟨by repeat (first | (with_reducible first | exact HB.out | apply below_alloc | apply pw_below_drewN | apply below_drew1 | refine below_set ?_ GE129.out) | exact HB.out)⟩⟩
                        · rw [if_neg c29] at H
                          exact absurd H (by simp)
                      · rw [if_neg c28] at H
                        have c28b0 : (a0_5 == 8) = false := beq_eq_false_iff_ne.mpr c28
                        have c28b1 : (a0_5 != 8) = true := bne_iff_ne.mpr c28
                        by_cases c32 : (Int.tmod (wrap64 (x14_1 * a0_5)) 8) = 0
                        · rw [if_pos c32] at H
                          have c32b0 : ((Int.tmod (wrap64 (x14_1 * a0_5)) 8) == 0) = true := beq_iff_eq.mpr c32
                          have c32b1 : ((Int.tmod (wrap64 (x14_1 * a0_5)) 8) != 0) = false := bne_eq_false_iff_eq.mpr c32
                          clear c32
                          obtain ⟨ji33, hji33⟩ : ∃ j_ : Int, (wrap64 (8 - a0_5)) = j_ := ⟨_, rfl⟩
                          replace H : (if 0 ≤ (ji33) then (if x5_1.length < 140737488355328 then (spec_Tiff_rowOf.l0 kj15 l1 (x5_1 ++ [(shl .i64 x8_15 (ji33)) % 256]) t133 l1 (l1.length : Int) (wrap64 (x14_1 + 1)) a0_0 a0_1 a0_2 a0_3 a0_4 a0_5 a0_6 a0_7 a0_8 a0_9 a0_10) else (none)) else (none)) = some r := by first | (rw [hji33] at H; exact H) | (simp only [hji33] at H ⊢; exact H)
                          have hji33w : (IntKind.i64.wrap (8 - a0_5)) = ji33 := (i64_w _).trans hji33
                          by_cases c34 : 0 ≤ (ji33)
                          · rw [if_pos c34] at H
                            have c34b0 := eq_true c34
                            have c34b1 : decide (0 ≤ (ji33)) = true := decide_eq_true c34
                            clear c34
                            obtain ⟨ji35, hji35⟩ : ∃ j_ : Int, (shl .i64 x8_15 (ji33)) = j_ := ⟨_, rfl⟩
                            replace H : (if x5_1.length < 140737488355328 then (spec_Tiff_rowOf.l0 kj15 l1 (x5_1 ++ [(ji35) % 256]) t133 l1 (l1.length : Int) (wrap64 (x14_1 + 1)) a0_0 a0_1 a0_2 a0_3 a0_4 a0_5 a0_6 a0_7 a0_8 a0_9 a0_10) else (none)) = some r := by first | (rw [hji35] at H; exact H) | (simp only [hji35] at H ⊢; exact H)
                            have hji35_ : (IntKind.i64.wrap (x8_15 * 2 ^ min (ji33).toNat 64)) = ji35 := hji35
                            have hji35z : (ji33) ≤ 64 → (IntKind.i64.wrap (x8_15 * 2 ^ (ji33).toNat)) = ji35 := shl_small hji35
                            have hji35y : (wrap64 (x8_15 * 2 ^ min (ji33).toNat 64)) = ji35 := (i64_w _).symm.trans hji35_
                            have hji35x : (ji33) ≤ 64 → (wrap64 (x8_15 * 2 ^ (ji33).toNat)) = ji35 := fun h_ => (i64_w _).symm.trans (hji35z h_)
                            by_cases c36 : x5_1.length < 140737488355328
                            · rw [if_pos c36] at H
                              have LMc36 := Aside0.mk c36
                              clear c36
                              obtain ⟨y145, hy145⟩ : ∃ y_ : List Int, y_ = (x5_1 ++ [(ji35) % 256]) := ⟨_, rfl⟩
                              replace H : (spec_Tiff_rowOf.l0 kj15 l1 y145 t133 l1 (l1.length : Int) (wrap64 (x14_1 + 1)) a0_0 a0_1 a0_2 a0_3 a0_4 a0_5 a0_6 a0_7 a0_8 a0_9 a0_10) = some r := by first | (rw [hy145]; with_reducible exact H) | (have H2_ := (Option.bind_some _ _).symm.trans H; rw [hy145]; with_reducible exact H2_) | (have H2_ := (Option.bind_some _ _).symm.trans H; with_reducible exact H2_) | with_reducible exact H | (rw [hy145]; exact H) | exact H
                              have Ny145 := Aside0.mk hy145
                              clear hy145
                              have H' := Aside0.mk H
                              clear H
                              have hcz37_0 : wc.cell? ⟨gb129, 0, none⟩ = some (.bool a0_0) := (blk_cell BK129.out 0).trans rfl
                              have hcz37_1 : wc.cell? ⟨gb129, 1, none⟩ = some (.int .i64 a0_1) := (blk_cell BK129.out 1).trans rfl
                              have hcz37_2 : wc.cell? ⟨gb129, 2, none⟩ = some (.int .i64 a0_2) := (blk_cell BK129.out 2).trans rfl
                              have hcz37_3 : wc.cell? ⟨gb129, 3, none⟩ = some (.int .i64 a0_3) := (blk_cell BK129.out 3).trans rfl
                              have hcz37_4 : wc.cell? ⟨gb129, 4, none⟩ = some (.int .i64 a0_4) := (blk_cell BK129.out 4).trans rfl
                              have hcz37_5 : wc.cell? ⟨gb129, 5, none⟩ = some (.int .i64 a0_5) := (blk_cell BK129.out 5).trans rfl
                              have hcz37_6 : wc.cell? ⟨gb129, 6, none⟩ = some (.int .i64 a0_6) := (blk_cell BK129.out 6).trans rfl
                              have hcz37_7 : wc.cell? ⟨gb129, 7, none⟩ = some (.bool a0_7) := (blk_cell BK129.out 7).trans rfl
                              have hcz37_8 : wc.cell? ⟨gb129, 8, none⟩ = some (.int .i64 a0_8) := (blk_cell BK129.out 8).trans rfl
                              have hcz37_9 : wc.cell? ⟨gb129, 9, none⟩ = some (.int .i64 a0_9) := (blk_cell BK129.out 9).trans rfl
                              have hcz37_10 : wc.cell? ⟨gb129, 10, none⟩ = some (.int .i64 a0_10) := (blk_cell BK129.out 10).trans rfl
                              have hfz37_0 := blk_frozen BK129.out 0
                              have hfz37_1 := blk_frozen BK129.out 1
                              have hfz37_2 := blk_frozen BK129.out 2
                              have hfz37_3 := blk_frozen BK129.out 3
                              have hfz37_4 := blk_frozen BK129.out 4
                              have hfz37_5 := blk_frozen BK129.out 5
                              have hfz37_6 := blk_frozen BK129.out 6
                              have hfz37_7 := blk_frozen BK129.out 7
                              have hfz37_8 := blk_frozen BK129.out 8
                              have hfz37_9 := blk_frozen BK129.out 9
                              have hfz37_10 := blk_frozen BK129.out 10
                              go_wp2_with (first | ((with_reducible refine gate_builtin (b := .append) (xs := #[.tmp 81, .tmp 88]) rfl ?_); at_builtin; refine Kd.R_append (Kd.int .u8) (w0 := w) w.heap.size rfl (.tmp 81) (.tmp 88) 26 5 (.int .u8 0) 1 rfl Tryd.underlying26 info5 rfl (by decide) (by omega) u5 x5_1 ((ji35) % 256) [.int .u8 ((ji35) % 256)] (fun _ => True) (fun _ => False) rfl rfl ?aP (fun _ hk => hk.elim) ?aF ?aO ?aB ?aS ?aL ?_; (case aP => exact rfl); (case aB => exact (by repeat (first | (with_reducible first | exact HB.out | apply below_alloc | apply pw_below_drewN | apply below_drew1 | refine below_set ?_ GE129.out) | exact HB.out))); (case aF => exact (fun _ _ => trivial)); (case aO => exact (by (with_reducible repeat (first | apply Kd.R_alloc | apply Kd.R_drewN | apply Kd.R_drew)); exact HO_5.out)); (case aS => exact (below_size (by repeat (first | (with_reducible first | exact HB.out | apply below_alloc | apply pw_below_drewN | apply below_drew1 | refine below_set ?_ GE129.out) | exact HB.out)))); (case aL => have := LMc36.out; omega); intro v146 w38 ho hb hg hat; rw [← Ny145.out] at ho; have n0_ := Aside0.mk (blk_grown (g := gb129) (o := .cells #[.bool a0_0, .int .i64 a0_1, .int .i64 a0_2, .int .i64 a0_3, .int .i64 a0_4, .int .i64 a0_5, .int .i64 a0_6, .bool a0_7, .int .i64 a0_8, .int .i64 a0_9, .int .i64 a0_10] 24 (0, 0)) (by (with_reducible repeat (first | refine blk_drewN ?_ _ | refine blk_drew ?_ | refine blk_alloc ?_ _)); exact BK129.out) hg (Kd.R_ne HO_5.out BK129.out (by decide))); have n1_ := Aside0.mk (hb); have n2_ := Aside0.mk (ho); clear BK129; clear HB; clear HO_5; have BK129 := n0_; have HB := n1_; have HO147 := n2_; clear n0_ n1_ n2_; clear ho hb hg hat))
                              go_roundg kj15
                              case measure => have := HK1.out; have := HJ11.out; have := HJ15.out; omega
                              case rel => exact ⟨(y145), (wrap64 (x14_1 + 1)), (by first | rfl | (simp; done) | (simp [*]; done)), H', ⟨by have := HK1.out; have := HJ11.out; have := HJ15.out; omega⟩, ⟨by (with_reducible repeat (first | apply Kd.R_alloc | apply Kd.R_drewN | apply Kd.R_drew)); exact HO147.out⟩, ⟨by (with_reducible repeat (first | refine blk_drewN ?_ _ | refine blk_drew ?_ | refine blk_alloc ?_ _)); exact BK129.out⟩, ⟨by repeat (first | (with_reducible first | exact HB.out | apply below_alloc | apply pw_below_drewN | apply below_drew1 | refine below_set ?_ GE129.out) | exact HB.out)⟩⟩
                            · rw [if_neg c36] at H
                              exact absurd H (by simp)
                          · rw [if_neg c34] at H
                            exact absurd H (by simp)
                        · rw [if_neg c32] at H
                          have c32b0 : ((Int.tmod (wrap64 (x14_1 * a0_5)) 8) == 0) = false := beq_eq_false_iff_ne.mpr c32
                          have c32b1 : ((Int.tmod (wrap64 (x14_1 * a0_5)) 8) != 0) = true := bne_iff_ne.mpr c32
                          obtain ⟨ji39, hji39⟩ : ∃ j_ : Int, (wrap64 ((x5_1.length : Int) - 1)) = j_ := ⟨_, rfl⟩
                          replace H : (if 0 ≤ (ji39) then (if (ji39) < (x5_1.length : Int) then (if 0 ≤ (wrap64 ((wrap64 (8 - a0_5)) - (Int.tmod (wrap64 (x14_1 * a0_5)) 8))) then (spec_Tiff_rowOf.l0 kj15 l1 (x5_1.set ((ji39) : Int).toNat (Go.bits .or .u8 (rd x5_1 (ji39)) ((shl .i64 x8_15 (wrap64 ((wrap64 (8 - a0_5)) - (Int.tmod (wrap64 (x14_1 * a0_5)) 8)))) % 256))) t133 l1 (l1.length : Int) (wrap64 (x14_1 + 1)) a0_0 a0_1 a0_2 a0_3 a0_4 a0_5 a0_6 a0_7 a0_8 a0_9 a0_10) else (none)) else (none)) else (none)) = some r := by first | (rw [hji39] at H; exact H) | (simp only [hji39] at H ⊢; exact H)
                          have hji39w : (IntKind.i64.wrap ((x5_1.length : Int) - 1)) = ji39 := (i64_w _).trans hji39
                          by_cases c40 : 0 ≤ (ji39)
                          · rw [if_pos c40] at H
                            have c40b0 : decide (0 ≤ (ji39)) = true := decide_eq_true c40
                            clear c40
                            by_cases c41 : (ji39) < (x5_1.length : Int)
                            · rw [if_pos c41] at H
                              have c41b0 : decide ((ji39) < (x5_1.length : Int)) = true := decide_eq_true c41
                              clear c41
                              obtain ⟨ji42, hji42⟩ : ∃ j_ : Int, (wrap64 ((wrap64 (8 - a0_5)) - (Int.tmod (wrap64 (x14_1 * a0_5)) 8))) = j_ := ⟨_, rfl⟩
                              replace H : (if 0 ≤ (ji42) then (spec_Tiff_rowOf.l0 kj15 l1 (x5_1.set ((ji39) : Int).toNat (Go.bits .or .u8 (rd x5_1 (ji39)) ((shl .i64 x8_15 (ji42)) % 256))) t133 l1 (l1.length : Int) (wrap64 (x14_1 + 1)) a0_0 a0_1 a0_2 a0_3 a0_4 a0_5 a0_6 a0_7 a0_8 a0_9 a0_10) else (none)) = some r := by first | (rw [hji42] at H; exact H) | (simp only [hji42] at H ⊢; exact H)
                              have hji42w : (IntKind.i64.wrap ((wrap64 (8 - a0_5)) - (Int.tmod (wrap64 (x14_1 * a0_5)) 8))) = ji42 := (i64_w _).trans hji42
                              by_cases c43 : 0 ≤ (ji42)
                              · rw [if_pos c43] at H
                                have c43b0 := eq_true c43
                                have c43b1 : decide (0 ≤ (ji42)) = true := decide_eq_true c43
                                clear c43
                                obtain ⟨ji44, hji44⟩ : ∃ j_ : Int, (shl .i64 x8_15 (ji42)) = j_ := ⟨_, rfl⟩
                                replace H : (spec_Tiff_rowOf.l0 kj15 l1 (x5_1.set ((ji39) : Int).toNat (Go.bits .or .u8 (rd x5_1 (ji39)) ((ji44) % 256))) t133 l1 (l1.length : Int) (wrap64 (x14_1 + 1)) a0_0 a0_1 a0_2 a0_3 a0_4 a0_5 a0_6 a0_7 a0_8 a0_9 a0_10) = some r := by first | (rw [hji44] at H; exact H) | (simp only [hji44] at H ⊢; exact H)
                                have hji44_ : (IntKind.i64.wrap (x8_15 * 2 ^ min (ji42).toNat 64)) = ji44 := hji44
                                have hji44z : (ji42) ≤ 64 → (IntKind.i64.wrap (x8_15 * 2 ^ (ji42).toNat)) = ji44 := shl_small hji44
                                have hji44y : (wrap64 (x8_15 * 2 ^ min (ji42).toNat 64)) = ji44 := (i64_w _).symm.trans hji44_
                                have hji44x : (ji42) ≤ 64 → (wrap64 (x8_15 * 2 ^ (ji42).toNat)) = ji44 := fun h_ => (i64_w _).symm.trans (hji44z h_)
                                obtain ⟨y149, hy149⟩ : ∃ y_ : List Int, y_ = (x5_1.set ((ji39) : Int).toNat (Go.bits .or .u8 (rd x5_1 (ji39)) ((ji44) % 256))) := ⟨_, rfl⟩
                                replace H : (spec_Tiff_rowOf.l0 kj15 l1 y149 t133 l1 (l1.length : Int) (wrap64 (x14_1 + 1)) a0_0 a0_1 a0_2 a0_3 a0_4 a0_5 a0_6 a0_7 a0_8 a0_9 a0_10) = some r := by first | (rw [hy149]; with_reducible exact H) | (have H2_ := (Option.bind_some _ _).symm.trans H; rw [hy149]; with_reducible exact H2_) | (have H2_ := (Option.bind_some _ _).symm.trans H; with_reducible exact H2_) | with_reducible exact H | (rw [hy149]; exact H) | exact H
                                have Ny149 := Aside0.mk hy149
                                clear hy149
                                have H' := Aside0.mk H
                                clear H
                                have hcz46_0 : wc.cell? ⟨gb129, 0, none⟩ = some (.bool a0_0) := (blk_cell BK129.out 0).trans rfl
                                have hcz46_1 : wc.cell? ⟨gb129, 1, none⟩ = some (.int .i64 a0_1) := (blk_cell BK129.out 1).trans rfl
                                have hcz46_2 : wc.cell? ⟨gb129, 2, none⟩ = some (.int .i64 a0_2) := (blk_cell BK129.out 2).trans rfl
                                have hcz46_3 : wc.cell? ⟨gb129, 3, none⟩ = some (.int .i64 a0_3) := (blk_cell BK129.out 3).trans rfl
                                have hcz46_4 : wc.cell? ⟨gb129, 4, none⟩ = some (.int .i64 a0_4) := (blk_cell BK129.out 4).trans rfl
                                have hcz46_5 : wc.cell? ⟨gb129, 5, none⟩ = some (.int .i64 a0_5) := (blk_cell BK129.out 5).trans rfl
                                have hcz46_6 : wc.cell? ⟨gb129, 6, none⟩ = some (.int .i64 a0_6) := (blk_cell BK129.out 6).trans rfl
                                have hcz46_7 : wc.cell? ⟨gb129, 7, none⟩ = some (.bool a0_7) := (blk_cell BK129.out 7).trans rfl
                                have hcz46_8 : wc.cell? ⟨gb129, 8, none⟩ = some (.int .i64 a0_8) := (blk_cell BK129.out 8).trans rfl
                                have hcz46_9 : wc.cell? ⟨gb129, 9, none⟩ = some (.int .i64 a0_9) := (blk_cell BK129.out 9).trans rfl
                                have hcz46_10 : wc.cell? ⟨gb129, 10, none⟩ = some (.int .i64 a0_10) := (blk_cell BK129.out 10).trans rfl
                                have hfz46_0 := blk_frozen BK129.out 0
                                have hfz46_1 := blk_frozen BK129.out 1
                                have hfz46_2 := blk_frozen BK129.out 2
                                have hfz46_3 := blk_frozen BK129.out 3
                                have hfz46_4 := blk_frozen BK129.out 4
                                have hfz46_5 := blk_frozen BK129.out 5
                                have hfz46_6 := blk_frozen BK129.out 6
                                have hfz46_7 := blk_frozen BK129.out 7
                                have hfz46_8 := blk_frozen BK129.out 8
                                have hfz46_9 := blk_frozen BK129.out 9
                                have hfz46_10 := blk_frozen BK129.out 10
                                try go_wp2
                                have n0_ := Aside0.mk (Kd.R_drew HO_5.out)
                                have n1_ := Aside0.mk (blk_drew BK129.out)
                                have n2_ := Aside0.mk (below_drew1 HB.out)
                                clear HO_5
                                clear BK129
                                clear HB
                                have HO_5 := n0_
                                have BK129 := n1_
                                have HB := n2_
                                clear n0_ n1_ n2_
                                obtain ⟨Ao48, co48, eo48⟩ := Kd.R_slice HO_5.out
                                (first | subst eo48 | (injection eo48 with f1_ f2_ f3_; have f4_ := f1_.symm; have f5_ := f3_.symm; clear f1_ f2_ f3_; subst f4_; subst f5_))
                                have p148 : 0 ≤ ((ji39) : Int) := of_decide_eq_true (by first | (with_reducible assumption) | assumption)
                                have q148 : (ji39) < (x5_1.length : Int) := of_decide_eq_true (by first | (with_reducible assumption) | assumption)
                                obtain ⟨ad148, e148, hx148_0⟩ := Kd.at_int (Kd.R_reads' HO_5.out).2.2 (ji39) p148 q148
                                cases e148
                                replace p148 := eq_true p148
                                replace q148 := eq_true q148
                                have p45 : 0 ≤ ((ji39) : Int) := of_decide_eq_true (by first | (with_reducible assumption) | assumption)
                                have q45 : ((ji39) : Int) < ((x5_1.length : Int) : Int) := of_decide_eq_true (by first | (with_reducible assumption) | assumption)
                                obtain ⟨go45, co45, eo45, gb45, gl45, cl45, HG45⟩ := Kd.R_form HO_5.out (by omega)
                                (first | cases eo45 | (injection eo45 with ea_ en_ ec_; (first | subst ea_ | (injection ea_ with ea_; subst ea_)); subst ec_; clear en_))
                                have GB45 := Aside0.mk gb45
                                have GG45 := Aside0.mk HG45
                                clear gb45 gl45 HG45
                                (first | simp only [add_plain] at hx148_0 | skip)
                                obtain ⟨hx45_0, hf45_0⟩ := Kd.R_celln 0 HO_5.out ((ji39) : Int) p45 q45
                                replace p45 := eq_true p45
                                replace q45 := eq_true q45
                                have HP49 := Kd.R_putn HO_5.out ((ji39) : Int) (Go.bits .or .u8 (rd x5_1 (ji39)) ((ji44) % 256))
                                rw [← Ny149.out] at HP49
                                have HQ49 := Aside0.mk HP49
                                clear HP49
                                refine start_ (n := 21) (S := fun w' => w'.cell? ⟨gb129, 0, none⟩ = some (.bool a0_0) ∧ w'.cell? ⟨gb129, 1, none⟩ = some (.int .i64 a0_1) ∧ w'.cell? ⟨gb129, 2, none⟩ = some (.int .i64 a0_2) ∧ w'.cell? ⟨gb129, 3, none⟩ = some (.int .i64 a0_3) ∧ w'.cell? ⟨gb129, 4, none⟩ = some (.int .i64 a0_4) ∧ w'.cell? ⟨gb129, 5, none⟩ = some (.int .i64 a0_5) ∧ w'.cell? ⟨gb129, 6, none⟩ = some (.int .i64 a0_6) ∧ w'.cell? ⟨gb129, 7, none⟩ = some (.bool a0_7) ∧ w'.cell? ⟨gb129, 8, none⟩ = some (.int .i64 a0_8) ∧ w'.cell? ⟨gb129, 9, none⟩ = some (.int .i64 a0_9) ∧ w'.cell? ⟨gb129, 10, none⟩ = some (.int .i64 a0_10) ∧ w'.cell? ⟨go45, ((ji39)).toNat, none⟩ = some (.int .u8 (rd x5_1 (ji39)))) (ds := [20]) #[false, false, false, false, false, false, false, false, false, false, false, false, false, false, false, false, false, false, false, false, false] (by kernel_rfl) rfl rfl ⟨(blk_cell BK129.out 0).trans rfl, (blk_cell BK129.out 1).trans rfl, (blk_cell BK129.out 2).trans rfl, (blk_cell BK129.out 3).trans rfl, (blk_cell BK129.out 4).trans rfl, (blk_cell BK129.out 5).trans rfl, (blk_cell BK129.out 6).trans rfl, (blk_cell BK129.out 7).trans rfl, (blk_cell BK129.out 8).trans rfl, (blk_cell BK129.out 9).trans rfl, (blk_cell BK129.out 10).trans rfl, hx148_0⟩ (fun hHeld => ?_); refine with_tabW spec_Tiff_rowOf.tab8 spec_Tiff_rowOf.bits8 (fun HT_ HW_ => ?_)
                                generalize wc.drew = w47 at HO_5 BK129 HB GG45 HQ49 hf45_0 hx148_0 hx45_0 hHeld ⊢
                                refine pure_ (i := 0) (N := some 34) (v := ?_) (a' := ?_) #[true, false, false, false, false, false, false, false, false, false, false, false, false, false, false, false, false, false, false, false, false] rfl rfl (any_of HT_.out (by kernel_rfl)) (fun _ _ _ h => h) (Or.inl ⟨by rfl, ?_⟩) ?_ ?_
                                rotate_left
                                · intro w'
                                  go_simp
                                  with_reducible rfl
                                rotate_left
                                · simp only [Act.put, List.setIfInBounds_toArray, List.set_cons_zero, List.set_cons_succ, i64_w, i32_w]
                                  rfl
                                refine pure_ (i := 1) (N := some 35) (v := ?_) (a' := ?_) #[true, true, false, false, false, false, false, false, false, false, false, false, false, false, false, false, false, false, false, false, false] rfl rfl (any_of HT_.out (by kernel_rfl)) (fun _ _ _ h => h) (Or.inl ⟨by rfl, ?_⟩) ?_ ?_
                                rotate_left
                                · intro w'
                                  go_simp
                                  with_reducible rfl
                                rotate_left
                                · simp only [Act.put, List.setIfInBounds_toArray, List.set_cons_zero, List.set_cons_succ, i64_w, i32_w]
                                  rfl
                                refine pure_ (i := 2) (N := some 36) (v := ?_) (a' := ?_) #[true, true, true, false, false, false, false, false, false, false, false, false, false, false, false, false, false, false, false, false, false] rfl rfl (any_of HT_.out (by kernel_rfl)) (fun _ _ _ h => h) (Or.inl ⟨by rfl, ?_⟩) ?_ ?_
                                rotate_left
                                · intro w'
                                  go_simp
                                  with_reducible rfl
                                rotate_left
                                · simp only [Act.put, List.setIfInBounds_toArray, List.set_cons_zero, List.set_cons_succ, i64_w, i32_w]
                                  rfl
                                refine pure_ (i := 3) (N := some 37) (v := ?_) (a' := ?_) #[true, true, true, true, false, false, false, false, false, false, false, false, false, false, false, false, false, false, false, false, false] rfl rfl (any_of HT_.out (by kernel_rfl)) (fun _ _ _ h => h) (Or.inl ⟨by rfl, ?_⟩) ?_ ?_
                                rotate_left
                                · intro w'
                                  go_simp
                                  with_reducible rfl
                                rotate_left
                                · simp only [Act.put, List.setIfInBounds_toArray, List.set_cons_zero, List.set_cons_succ, i64_w, i32_w]
                                  rfl
                                refine pure_ (i := 4) (N := some 38) (v := ?_) (a' := ?_) #[true, true, true, true, true, false, false, false, false, false, false, false, false, false, false, false, false, false, false, false, false] rfl rfl (any_of HT_.out (by kernel_rfl)) (fun _ _ _ h => h) (Or.inl ⟨by rfl, ?_⟩) ?_ ?_
                                rotate_left
                                · intro w'
                                  go_simp
                                  with_reducible rfl
                                rotate_left
                                · simp only [Act.put, List.setIfInBounds_toArray, List.set_cons_zero, List.set_cons_succ, i64_w, i32_w]
                                  rfl
                                refine pure_ (i := 6) (N := some 40) (v := ?_) (a' := ?_) #[true, true, true, true, true, false, true, false, false, false, false, false, false, false, false, false, false, false, false, false, false] rfl rfl (any_of HT_.out (by kernel_rfl)) (fun _ _ _ h => h) (Or.inl ⟨by rfl, ?_⟩) ?_ ?_
                                rotate_left
                                · intro w'
                                  go_simp
                                  with_reducible rfl
                                rotate_left
                                · simp only [Act.put, List.setIfInBounds_toArray, List.set_cons_zero, List.set_cons_succ, i64_w, i32_w]
                                  rfl
                                refine pure_ (i := 7) (N := some 41) (v := ?_) (a' := ?_) #[true, true, true, true, true, false, true, true, false, false, false, false, false, false, false, false, false, false, false, false, false] rfl rfl (any_of HT_.out (by kernel_rfl)) (fun _ _ _ h => h) (Or.inl ⟨by rfl, ?_⟩) ?_ ?_
                                rotate_left
                                · intro w'
                                  go_simp
                                  with_reducible rfl
                                rotate_left
                                · simp only [Act.put, List.setIfInBounds_toArray, List.set_cons_zero, List.set_cons_succ, i64_w, i32_w]
                                  rfl
                                refine pure_ (i := 10) (N := some 44) (v := ?_) (a' := ?_) #[true, true, true, true, true, false, true, true, false, false, true, false, false, false, false, false, false, false, false, false, false] rfl rfl (any_of HT_.out (by kernel_rfl)) (fun _ _ _ h => h) (Or.inl ⟨by rfl, ?_⟩) ?_ ?_
                                rotate_left
                                · intro w'
                                  go_simp
                                  with_reducible rfl
                                rotate_left
                                · simp only [Act.put, List.setIfInBounds_toArray, List.set_cons_zero, List.set_cons_succ, i64_w, i32_w]
                                  rfl
                                refine pure_ (i := 11) (N := some 45) (v := ?_) (a' := ?_) #[true, true, true, true, true, false, true, true, false, false, true, true, false, false, false, false, false, false, false, false, false] rfl rfl (any_of HT_.out (by kernel_rfl)) (fun _ _ _ h => h) (Or.inl ⟨by rfl, ?_⟩) ?_ ?_
                                rotate_left
                                · intro w'
                                  go_simp
                                  with_reducible rfl
                                rotate_left
                                · simp only [Act.put, List.setIfInBounds_toArray, List.set_cons_zero, List.set_cons_succ, i64_w, i32_w]
                                  rfl
                                refine take_ (i := 5) (N := some 39) (v := ?_) (a' := ?_) #[true, true, true, true, true, true, true, true, false, false, true, true, false, false, false, false, false, false, false, false, false] rfl rfl (take_ofW HT_.out HW_.out (by kernel_rfl)) (fun _ _ _ h => h) (Or.inl ⟨by rfl, ?_⟩) hHeld ?_ ?_
                                rotate_left
                                · rintro w' ⟨s0, s1, s2, s3, s4, s5, s6, s7, s8, s9, s10, s11⟩
                                  go_simp
                                  with_reducible rfl
                                rotate_left
                                · simp only [Act.put, List.setIfInBounds_toArray, List.set_cons_zero, List.set_cons_succ, i64_w, i32_w]
                                  rfl
                                refine take_ (i := 8) (N := some 42) (v := ?_) (a' := ?_) #[true, true, true, true, true, true, true, true, true, false, true, true, false, false, false, false, false, false, false, false, false] rfl rfl (take_ofW HT_.out HW_.out (by kernel_rfl)) (fun _ _ _ h => h) (Or.inl ⟨by rfl, ?_⟩) hHeld ?_ ?_
                                rotate_left
                                · rintro w' ⟨s0, s1, s2, s3, s4, s5, s6, s7, s8, s9, s10, s11⟩
                                  go_simp
                                  with_reducible rfl
                                rotate_left
                                · simp only [Act.put, List.setIfInBounds_toArray, List.set_cons_zero, List.set_cons_succ, i64_w, i32_w]
                                  rfl
                                refine pure_ (i := 9) (N := some 43) (v := ?_) (a' := ?_) #[true, true, true, true, true, true, true, true, true, true, true, true, false, false, false, false, false, false, false, false, false] rfl rfl (any_of HT_.out (by kernel_rfl)) (fun _ _ _ h => h) (Or.inl ⟨by rfl, ?_⟩) ?_ ?_
                                rotate_left
                                · intro w'
                                  go_simp
                                  with_reducible rfl
                                rotate_left
                                · simp only [Act.put, List.setIfInBounds_toArray, List.set_cons_zero, List.set_cons_succ, i64_w, i32_w]
                                  rfl
                                refine take_ (i := 12) (N := some 46) (v := ?_) (a' := ?_) #[true, true, true, true, true, true, true, true, true, true, true, true, true, false, false, false, false, false, false, false, false] rfl rfl (take_ofW HT_.out HW_.out (by kernel_rfl)) (fun _ _ _ h => h) (Or.inl ⟨by rfl, ?_⟩) hHeld ?_ ?_
                                rotate_left
                                · rintro w' ⟨s0, s1, s2, s3, s4, s5, s6, s7, s8, s9, s10, s11⟩
                                  go_simp
                                  with_reducible rfl
                                rotate_left
                                · simp only [Act.put, List.setIfInBounds_toArray, List.set_cons_zero, List.set_cons_succ, i64_w, i32_w]
                                  rfl
                                refine pure_ (i := 13) (N := some 47) (v := ?_) (a' := ?_) #[true, true, true, true, true, true, true, true, true, true, true, true, true, true, false, false, false, false, false, false, false] rfl rfl (any_of HT_.out (by kernel_rfl)) (fun _ _ _ h => h) (Or.inl ⟨by rfl, ?_⟩) ?_ ?_
                                rotate_left
                                · intro w'
                                  go_simp
                                  with_reducible rfl
                                rotate_left
                                · simp only [Act.put, List.setIfInBounds_toArray, List.set_cons_zero, List.set_cons_succ, i64_w, i32_w]
                                  rfl
                                refine pure_ (i := 14) (N := some 48) (v := ?_) (a' := ?_) #[true, true, true, true, true, true, true, true, true, true, true, true, true, true, true, false, false, false, false, false, false] rfl rfl (any_of HT_.out (by kernel_rfl)) (fun _ _ _ h => h) (Or.inl ⟨by rfl, ?_⟩) ?_ ?_
                                rotate_left
                                · intro w'
                                  go_simp
                                  with_reducible rfl
                                rotate_left
                                · simp only [Act.put, List.setIfInBounds_toArray, List.set_cons_zero, List.set_cons_succ, i64_w, i32_w]
                                  rfl
                                refine pure_ (i := 15) (N := some 49) (v := ?_) (a' := ?_) #[true, true, true, true, true, true, true, true, true, true, true, true, true, true, true, true, false, false, false, false, false] rfl rfl (any_of HT_.out (by kernel_rfl)) (fun _ _ _ h => h) (Or.inl ⟨by rfl, ?_⟩) ?_ ?_
                                rotate_left
                                · intro w'
                                  go_simp
                                  with_reducible rfl
                                rotate_left
                                · simp only [Act.put, List.setIfInBounds_toArray, List.set_cons_zero, List.set_cons_succ, i64_w, i32_w]
                                  rfl
                                refine pure_ (i := 16) (N := some 50) (v := ?_) (a' := ?_) #[true, true, true, true, true, true, true, true, true, true, true, true, true, true, true, true, true, false, false, false, false] rfl rfl (any_of HT_.out (by kernel_rfl)) (fun _ _ _ h => h) (Or.inl ⟨by rfl, ?_⟩) ?_ ?_
                                rotate_left
                                · intro w'
                                  go_simp
                                  with_reducible rfl
                                rotate_left
                                · simp only [Act.put, List.setIfInBounds_toArray, List.set_cons_zero, List.set_cons_succ, i64_w, i32_w]
                                  rfl
                                refine pure_ (i := 17) (N := some 51) (v := ?_) (a' := ?_) #[true, true, true, true, true, true, true, true, true, true, true, true, true, true, true, true, true, true, false, false, false] rfl rfl (any_of HT_.out (by kernel_rfl)) (fun _ _ _ h => h) (Or.inl ⟨by rfl, ?_⟩) ?_ ?_
                                rotate_left
                                · intro w'
                                  go_simp
                                  with_reducible rfl
                                rotate_left
                                · simp only [Act.put, List.setIfInBounds_toArray, List.set_cons_zero, List.set_cons_succ, i64_w, i32_w]
                                  rfl
                                refine pure_ (i := 18) (N := some 52) (v := ?_) (a' := ?_) #[true, true, true, true, true, true, true, true, true, true, true, true, true, true, true, true, true, true, true, false, false] rfl rfl (any_of HT_.out (by kernel_rfl)) (fun _ _ _ h => h) (Or.inl ⟨by rfl, ?_⟩) ?_ ?_
                                rotate_left
                                · intro w'
                                  go_simp
                                  with_reducible rfl
                                rotate_left
                                · simp only [Act.put, List.setIfInBounds_toArray, List.set_cons_zero, List.set_cons_succ, i64_w, i32_w]
                                  rfl
                                refine pure_ (i := 19) (N := some 53) (v := ?_) (a' := ?_) #[true, true, true, true, true, true, true, true, true, true, true, true, true, true, true, true, true, true, true, true, false] rfl rfl (any_of HT_.out (by kernel_rfl)) (fun _ _ _ h => h) (Or.inl ⟨by rfl, ?_⟩) ?_ ?_
                                rotate_left
                                · intro w'
                                  go_simp
                                  with_reducible rfl
                                rotate_left
                                · simp only [Act.put, List.setIfInBounds_toArray, List.set_cons_zero, List.set_cons_succ, i64_w, i32_w]
                                  rfl
                                refine last_ (i := 20) (N := none) #[true, true, true, true, true, true, true, true, true, true, true, true, true, true, true, true, true, true, true, true, true] rfl rfl (one_of HT_.out (by kernel_rfl)) (by decide) (fun K hK => ?_)
                                refine skip_ (w1 := ?_) (by rfl) rfl ?_ ?_
                                rotate_left
                                · go_simp
                                  rfl
                                refine hK.out _ _ ?_
                                clear hK K
                                refine done_ (done_of HT_.out (by kernel_rfl)) ?_
                                try go_wp2
                                go_roundg kj15
                                case measure => have := HK1.out; have := HJ11.out; have := HJ15.out; omega
                                case rel => exact ⟨(y149), (wrap64 (x14_1 + 1)), (by first | rfl | (simp; done) | (simp [*]; done)), H', ⟨by have := HK1.out; have := HJ11.out; have := HJ15.out; omega⟩, ⟨by (with_reducible repeat (first | apply Kd.R_alloc | apply Kd.R_drewN | apply Kd.R_drew)); exact HQ49.out⟩, ⟨by (with_reducible repeat (first | refine blk_drewN ?_ _ | refine blk_drew ?_ | refine blk_alloc ?_ _)); refine blk_far ?_ (by have h_ := Kd.R_ne HO_5.out BK129.out (by decide); intro e_; exact h_ (by rw [e_]; rfl)) _; (with_reducible repeat (first | refine blk_drewN ?_ _ | refine blk_drew ?_ | refine blk_alloc ?_ _)); exact BK129.out⟩, ⟨by repeat (first | (with_reducible first | exact HB.out | apply below_alloc | apply pw_below_drewN | apply below_drew1 | refine below_set ?_ GB45.out | refine below_set ?_ GE129.out) | exact HB.out)⟩⟩
                              · rw [if_neg c43] at H
                                exact absurd H (by simp)
                            · rw [if_neg c41] at H
                              exact absurd H (by simp)
                          · rw [if_neg c40] at H
                            exact absurd H (by simp)
          · rw [if_neg c11] at H
            exact absurd H (by simp)
        · rw [if_neg c10] at H
          exact absurd H (by simp)
      · rw [if_neg c9] at H
        have c9b0 : decide (x14_1 < (l1.length : Int)) = false := decide_eq_false c9
        clear c9
        obtain rfl := Option.some.inj H
        go_wp2
        go_ret
        exact ⟨_, by first | rfl | (simp [errW_none, errW_some] <;> rfl) | (simp [*, errW_none, errW_some] <;> rfl), by (with_reducible repeat (first | apply Kd.R_alloc | apply Kd.R_drewN | apply Kd.R_drew)); exact HO_5.out, by repeat (first | (with_reducible first | exact HB.out | apply below_alloc | apply pw_below_drewN | apply below_drew1 | refine below_set ?_ GE129.out) | exact HB.out)⟩

end Go.Proofs.YtnodmobblamlgaaDoor.PFnConfig
