-- PRINTED BY print.sh 35421559b90ae4d0a3588c463048766b98c2df88dd9212a6774a882060cdf62d: not written by this session
import Derived.Test.YtloflgkidclhoaaDoorPFnPackBitsBackx0
namespace Go.Proofs.YtloflgkidclhoaaDoor.PFnPackBitsBack
open Go.RowKit Go.Proofs.YtloflgkidclhoaaDoorW.PrintWords Go.Proofs.YtloflgkidclhoaaDoorW.PrintLast Go.Proofs.YtloflgkidclhoaaDoorW.PrintMore
attribute [local go_sem] max2_int min2_int max_two min_two max_three min_three max_four min_four   -- for this text's walks alone
set_option linter.unusedVariables false
set_option linter.unusedSimpArgs false

/-! ### spec_Run: function 8 -/
mutual
def spec_Run.l0 : Nat → List Int → Int → Int → List Int → Int → Option (List Int)
  | 0, _, _, _, _, _ => none
  | k + 1, x0, x1, x2, x7, x8 => if x8 < (x0.length : Int) then (spec_Run.l1 k x0 x1 x2 x7 x8 1) else (some x7)
def spec_Run.j2 : Nat → List Int → Int → Int → List Int → Int → Int → Option (List Int)
  | 0, _, _, _, _, _, _ => none
  | k + 1, x0, x1, x2, x7, x8, x9 => if (Go.bits .and .i64 x2 2) = 0 then (if x9 > 1 then (if (Go.bits .and .i64 x2 1) = 0 then (if x7.length < 140737488355328 then ((some (x7 ++ [(wrap64 ((mn x1 (wrap64 ((x0.length : Int) - x8))) - 1)) % 256] : List Int)).bind fun y111 => (if 0 ≤ x8 then (if x8 ≤ (wrap64 (x8 + (mn x1 (wrap64 ((x0.length : Int) - x8))))) then (if (wrap64 (x8 + (mn x1 (wrap64 ((x0.length : Int) - x8))))) ≤ (x0.length : Int) then (if y111.length + ((x0.take ((wrap64 (x8 + (mn x1 (wrap64 ((x0.length : Int) - x8))))) : Int).toNat).drop (x8 : Int).toNat).length < 140737488355328 then (spec_Run.l0 k x0 x1 x2 (y111 ++ ((x0.take ((wrap64 (x8 + (mn x1 (wrap64 ((x0.length : Int) - x8))))) : Int).toNat).drop (x8 : Int).toNat)) (wrap64 (x8 + (mn x1 (wrap64 ((x0.length : Int) - x8)))))) else (none)) else (none)) else (none)) else (none))) else (none)) else (if 0 ≤ x8 then (if x8 < (x0.length : Int) then ((some (([(wrap64 (257 - x9)) % 256, rd x0 x8] : List Int) : List Int)).bind fun y119 => (if x7.length + y119.length < 140737488355328 then (spec_Run.l0 k x0 x1 x2 (x7 ++ y119) (wrap64 (x8 + x9))) else (none))) else (none)) else (none))) else (if x7.length < 140737488355328 then ((some (x7 ++ [(wrap64 ((mn x1 (wrap64 ((x0.length : Int) - x8))) - 1)) % 256] : List Int)).bind fun y125 => (if 0 ≤ x8 then (if x8 ≤ (wrap64 (x8 + (mn x1 (wrap64 ((x0.length : Int) - x8))))) then (if (wrap64 (x8 + (mn x1 (wrap64 ((x0.length : Int) - x8))))) ≤ (x0.length : Int) then (if y125.length + ((x0.take ((wrap64 (x8 + (mn x1 (wrap64 ((x0.length : Int) - x8))))) : Int).toNat).drop (x8 : Int).toNat).length < 140737488355328 then (spec_Run.l0 k x0 x1 x2 (y125 ++ ((x0.take ((wrap64 (x8 + (mn x1 (wrap64 ((x0.length : Int) - x8))))) : Int).toNat).drop (x8 : Int).toNat)) (wrap64 (x8 + (mn x1 (wrap64 ((x0.length : Int) - x8)))))) else (none)) else (none)) else (none)) else (none))) else (none))) else (if x7.length < 140737488355328 then ((some (x7 ++ [128] : List Int)).bind fun y132 => (if x9 > 1 then (if (Go.bits .and .i64 x2 1) = 0 then (if y132.length < 140737488355328 then ((some (y132 ++ [(wrap64 ((mn x1 (wrap64 ((x0.length : Int) - x8))) - 1)) % 256] : List Int)).bind fun y135 => (if 0 ≤ x8 then (if x8 ≤ (wrap64 (x8 + (mn x1 (wrap64 ((x0.length : Int) - x8))))) then (if (wrap64 (x8 + (mn x1 (wrap64 ((x0.length : Int) - x8))))) ≤ (x0.length : Int) then (if y135.length + ((x0.take ((wrap64 (x8 + (mn x1 (wrap64 ((x0.length : Int) - x8))))) : Int).toNat).drop (x8 : Int).toNat).length < 140737488355328 then (spec_Run.l0 k x0 x1 x2 (y135 ++ ((x0.take ((wrap64 (x8 + (mn x1 (wrap64 ((x0.length : Int) - x8))))) : Int).toNat).drop (x8 : Int).toNat)) (wrap64 (x8 + (mn x1 (wrap64 ((x0.length : Int) - x8)))))) else (none)) else (none)) else (none)) else (none))) else (none)) else (if 0 ≤ x8 then (if x8 < (x0.length : Int) then ((some (([(wrap64 (257 - x9)) % 256, rd x0 x8] : List Int) : List Int)).bind fun y143 => (if y132.length + y143.length < 140737488355328 then (spec_Run.l0 k x0 x1 x2 (y132 ++ y143) (wrap64 (x8 + x9))) else (none))) else (none)) else (none))) else (if y132.length < 140737488355328 then ((some (y132 ++ [(wrap64 ((mn x1 (wrap64 ((x0.length : Int) - x8))) - 1)) % 256] : List Int)).bind fun y149 => (if 0 ≤ x8 then (if x8 ≤ (wrap64 (x8 + (mn x1 (wrap64 ((x0.length : Int) - x8))))) then (if (wrap64 (x8 + (mn x1 (wrap64 ((x0.length : Int) - x8))))) ≤ (x0.length : Int) then (if y149.length + ((x0.take ((wrap64 (x8 + (mn x1 (wrap64 ((x0.length : Int) - x8))))) : Int).toNat).drop (x8 : Int).toNat).length < 140737488355328 then (spec_Run.l0 k x0 x1 x2 (y149 ++ ((x0.take ((wrap64 (x8 + (mn x1 (wrap64 ((x0.length : Int) - x8))))) : Int).toNat).drop (x8 : Int).toNat)) (wrap64 (x8 + (mn x1 (wrap64 ((x0.length : Int) - x8)))))) else (none)) else (none)) else (none)) else (none))) else (none)))) else (none))
def spec_Run.l1 : Nat → List Int → Int → Int → List Int → Int → Int → Option (List Int)
  | 0, _, _, _, _, _, _ => none
  | k + 1, x0, x1, x2, x7, x8, x9 => if (wrap64 (x8 + x9)) < (x0.length : Int) then (if 0 ≤ (wrap64 (x8 + x9)) then (if 0 ≤ x8 then (if x8 < (x0.length : Int) then (if (rd x0 (wrap64 (x8 + x9))) = (rd x0 x8) then (if x9 < 128 then (spec_Run.l1 k x0 x1 x2 x7 x8 (wrap64 (x9 + 1))) else (spec_Run.j2 k x0 x1 x2 x7 x8 x9)) else (spec_Run.j2 k x0 x1 x2 x7 x8 x9)) else (none)) else (none)) else (none)) else (spec_Run.j2 k x0 x1 x2 x7 x8 x9)
end
def spec_Run.f (k : Nat) (l0 : List Int) (a1 : Int) (a2 : Int) : Option (List Int) := spec_Run.l0 k l0 a1 a2 (([] : List Int)) 0
theorem spec_Run.mono_l : ∀ k, (∀ y0 y1 y2 y3 y4, LeO (spec_Run.l0 k y0 y1 y2 y3 y4) (spec_Run.l0 (k + 1) y0 y1 y2 y3 y4)) ∧ (∀ y0 y1 y2 y3 y4 y5, LeO (spec_Run.j2 k y0 y1 y2 y3 y4 y5) (spec_Run.j2 (k + 1) y0 y1 y2 y3 y4 y5)) ∧ (∀ y0 y1 y2 y3 y4 y5, LeO (spec_Run.l1 k y0 y1 y2 y3 y4 y5) (spec_Run.l1 (k + 1) y0 y1 y2 y3 y4 y5))
  | 0 => ⟨fun _ _ _ _ _ r h => by simp [spec_Run.l0] at h, fun _ _ _ _ _ _ r h => by simp [spec_Run.j2] at h, fun _ _ _ _ _ _ r h => by simp [spec_Run.l1] at h⟩
  | k + 1 => by
    obtain ⟨ih0, ih1, ih2⟩ := spec_Run.mono_l k
    refine ⟨?_, ?_, ?_⟩
    · intro y0 y1 y2 y3 y4
      unfold spec_Run.l0
      repeat' first
      | (with_reducible exact ih0 _ _ _ _ _)
      | (with_reducible exact ih1 _ _ _ _ _ _)
      | (with_reducible exact ih2 _ _ _ _ _ _)
      | (with_reducible exact LeO.refl _)
      | (with_reducible exact LeO.none _)
      | (with_reducible refine LeO.ite ?_ ?_)
      | (with_reducible refine LeO.bind ?_ (fun _ => ?_))
      | exact ih0 _ _ _ _ _
      | exact ih1 _ _ _ _ _ _
      | exact ih2 _ _ _ _ _ _
      | exact LeO.none _
      | refine LeO.ite ?_ ?_
      | refine LeO.bind ?_ (fun _ => ?_)
    · intro y0 y1 y2 y3 y4 y5
      unfold spec_Run.j2
      repeat' first
      | (with_reducible exact ih0 _ _ _ _ _)
      | (with_reducible exact ih1 _ _ _ _ _ _)
      | (with_reducible exact ih2 _ _ _ _ _ _)
      | (with_reducible exact LeO.refl _)
      | (with_reducible exact LeO.none _)
      | (with_reducible refine LeO.ite ?_ ?_)
      | (with_reducible refine LeO.bind ?_ (fun _ => ?_))
      | exact ih0 _ _ _ _ _
      | exact ih1 _ _ _ _ _ _
      | exact ih2 _ _ _ _ _ _
      | exact LeO.none _
      | refine LeO.ite ?_ ?_
      | refine LeO.bind ?_ (fun _ => ?_)
    · intro y0 y1 y2 y3 y4 y5
      unfold spec_Run.l1
      repeat' first
      | (with_reducible exact ih0 _ _ _ _ _)
      | (with_reducible exact ih1 _ _ _ _ _ _)
      | (with_reducible exact ih2 _ _ _ _ _ _)
      | (with_reducible exact LeO.refl _)
      | (with_reducible exact LeO.none _)
      | (with_reducible refine LeO.ite ?_ ?_)
      | (with_reducible refine LeO.bind ?_ (fun _ => ?_))
      | exact ih0 _ _ _ _ _
      | exact ih1 _ _ _ _ _ _
      | exact ih2 _ _ _ _ _ _
      | exact LeO.none _
      | refine LeO.ite ?_ ?_
      | refine LeO.bind ?_ (fun _ => ?_)
theorem spec_Run.mono : ∀ a0 a1 a2 k, LeO (spec_Run.f k a0 a1 a2) (spec_Run.f (k + 1) a0 a1 a2) := by
  intro a0 a1 a2 k
  obtain ⟨ih0, ih1, ih2⟩ := spec_Run.mono_l k
  unfold spec_Run.f
  repeat' first
      | (with_reducible exact ih0 _ _ _ _ _)
      | (with_reducible exact ih1 _ _ _ _ _ _)
      | (with_reducible exact ih2 _ _ _ _ _ _)
      | (with_reducible exact LeO.refl _)
      | (with_reducible exact LeO.none _)
      | (with_reducible refine LeO.ite ?_ ?_)
      | (with_reducible refine LeO.bind ?_ (fun _ => ?_))
      | exact ih0 _ _ _ _ _
      | exact ih1 _ _ _ _ _ _
      | exact ih2 _ _ _ _ _ _
      | exact LeO.none _
      | refine LeO.ite ?_ ?_
      | refine LeO.bind ?_ (fun _ => ?_)
def spec_Run.T5 : Bool × List (List Nat × List Nat) := (true, [([], []), ([], []), ([0, 1], [0, 1]), ([], []), ([3], [3]), ([2, 4], [2, 4]), ([5], [5]), ([6], [6]), ([6], [6]), ([6], [6]), ([8, 9, 6], [6, 8, 9]), ([7, 10, 6], [6, 7, 10]), ([11, 6], [6, 11]), ([6], [6]), ([6], [6]), ([13, 14, 6], [6, 13, 14]), ([15, 6], [6, 15]), ([12, 16, 6], [6, 12, 16]), ([6, 17], [6, 17]), ([18, 6], [18]), ([19], [19]), ([20, 19], [19, 20]), ([19, 21], [19, 21])])
def spec_Run.B5 : List Nat := [0, 0, 3, 0, 8, 31, 63, 127, 127, 127, 895, 2047, 4095, 127, 127, 24703, 57471, 131071, 262143, 524287, 1048575, 2097151, 4194303]
theorem spec_Run.tab5 : rtab .any (opsOf Tryd.f8 5) = spec_Run.T5 := by kernel_rfl
theorem spec_Run.bits5 : waitsOk spec_Run.T5.2 spec_Run.B5 = true := by kernel_rfl
def spec_Run.T13 : Bool × List (List Nat × List Nat) := (true, [([], []), ([], []), ([1], [1]), ([2], [2]), ([3], [3]), ([0, 4], [0, 4]), ([], []), ([], []), ([], []), ([], []), ([8, 9], [8, 9]), ([6, 7, 10], [6, 7, 10]), ([5, 11, 5], [5, 11]), ([12, 12, 0, 1, 2, 3, 4, 5, 6, 7, 8, 9, 10, 11, 12], [0, 12])])
def spec_Run.B13 : List Nat := [0, 0, 2, 6, 14, 31, 0, 0, 0, 0, 768, 1984, 4095, 8191]
theorem spec_Run.tab13 : rtab .any (opsOf Tryd.f8 13) = spec_Run.T13 := by kernel_rfl
theorem spec_Run.bits13 : waitsOk spec_Run.T13.2 spec_Run.B13 = true := by kernel_rfl
set_option maxHeartbeats 8000000 in
set_option maxRecDepth 100000 in
theorem spec_Run.calls (k : Nat) (A0 : Option Addr) (c0 : Nat) (l0 : List Int) (a1 : Int) (a2 : Int) (r : List Int) (w : World) (hr0 : Kd.C (Kd.int .u8) w A0 l0.length l0) (hc0 : l0.length ≤ c0) (h : spec_Run.f k l0 a1 a2 = some r) :
    Calls Tryd.prog 8 #[.slice A0 l0.length c0, .int .i64 a1, .int .i64 a2] w fun e w' => ∃ v0_ : Value, e = .returned (v0_) ∧ Kd.R (Kd.int .u8) 5 w' w.heap.size (fun _ => True) v0_ r ∧ Below w.heap.size w w' := by
  have HR0 := Aside0.mk hr0
  have HC0 := Aside0.mk hc0
  clear hr0 hc0
  have HB := Aside0.mk (Below.refl w.heap.size w)
  have H : (spec_Run.l0 k l0 a1 a2 (([] : List Int)) 0) = some r := h
  clear h
  obtain ⟨y106, hy106⟩ : ∃ y_ : List Int, y_ = (([] : List Int)) := ⟨_, rfl⟩
  replace H : (spec_Run.l0 k l0 a1 a2 y106 0) = some r := by first | (rw [hy106]; with_reducible exact H) | (have H2_ := (Option.bind_some _ _).symm.trans H; rw [hy106]; with_reducible exact H2_) | (have H2_ := (Option.bind_some _ _).symm.trans H; with_reducible exact H2_) | with_reducible exact H | (rw [hy106]; exact H) | exact H
  have Ny106 := Aside0.mk hy106
  clear hy106
  have H' := Aside0.mk H
  clear H
  go_enter Tryd.func8, Tryd.ntmps8
  go_wp2_with (first | ((with_reducible refine gate_dst (N := 10) rfl ?_); refine Kd.R_lit (Kd.int .u8) _ 5 ?hg (N := 10) ?hd (xs := ([] : List Int)) (inner := []) (ok := fun _ => True) (okp := fun _ => True) ?hr ?hp (fun _ hk => hk) trivial (Below.refl _ _) (Nat.le_refl _) (by simp) ?_; (case hd => rfl); (case hg => rfl); (case hr => first | (go_simp; done) | (go_simp; rfl)); (case hp => exact (Reps.none _ _)); intro v107 w4 ho5 hb hg_ hnew_; clear hg_ hnew_; (first | rw [← Ny106.out] at ho5 | (simp only [Int.reduceToNat] at ho5; rw [← Ny106.out] at ho5)); have n0_ := Aside0.mk (Kd.R_lower ho5 (below_size (by repeat (first | (with_reducible first | exact HB.out | apply below_alloc | apply pw_below_drewN | apply below_drew1) | exact HB.out)))); have n1_ := Aside0.mk (below_step (by repeat (first | (with_reducible first | exact HB.out | apply below_alloc | apply pw_below_drewN | apply below_drew1) | exact HB.out)) hb); clear HB; have HO108 := n0_; have HB := n1_; clear n0_ n1_; clear hb ho5))
  go_loopg [7, 8] k (fun kq v7 v8 w' => ∃ (x7_1 : List Int) (x8_1 : Int), v8 = .int .i64 x8_1 ∧ Aside0 (spec_Run.l0 kq l0 a1 a2 x7_1 x8_1 = some r) ∧ Aside0 (kq ≤ k) ∧ Aside0 (Kd.R (Kd.int .u8) 5 w' w.heap.size (fun _ => True) v7 x7_1) ∧ Aside0 (Below w.heap.size w w'))
  case atStart => exact ⟨(y106), (0), (by first | rfl | (simp; done) | (simp [*]; done)), H', ⟨Nat.le_refl _⟩, ⟨by (with_reducible repeat (first | apply Kd.R_alloc | apply Kd.R_drewN | apply Kd.R_drew)); exact HO108.out⟩, ⟨by repeat (first | (with_reducible first | exact HB.out | apply below_alloc | apply pw_below_drewN | apply below_drew1) | exact HB.out)⟩⟩
  case round =>
    clear H'
    try clear p2
    obtain ⟨x7_1, x8_1, rfl, HA, HK1, HO_7, HB⟩ := hrel
    cases gk with
    | zero => exact absurd HA.out (by simp [spec_Run.l0])
    | succ k1 =>
      have H := HA.out
      clear HA
      simp only [spec_Run.l0] at H
      by_cases c6 : x8_1 < (l0.length : Int)
      · rw [if_pos c6] at H
        have c6b0 : decide (x8_1 < (l0.length : Int)) = true := decide_eq_true c6
        clear c6
        have HC7 := Aside0.mk H
        clear H
        go_upto_block 2 with (fail)
        go_cut [9] (fun v9 wc => ∃ (kq : Nat) (x9_6 : Int), v9 = .int .i64 x9_6 ∧ Aside0 (spec_Run.j2 kq l0 a1 a2 x7_1 x8_1 x9_6 = some r) ∧ Aside0 (kq ≤ k1) ∧ Aside0 (Kd.R (Kd.int .u8) 5 wc w.heap.size (fun _ => True) u7 x7_1) ∧ Aside0 (Below w.heap.size w wc))
        case first =>
          have H := HC7.out
          clear HC7
          have H' := Aside0.mk H
          clear H
          go_wp2
          go_loopg [9] k1 (fun kq v9 w' => ∃ (x9_2 : Int), v9 = .int .i64 x9_2 ∧ Aside0 (spec_Run.l1 kq l0 a1 a2 x7_1 x8_1 x9_2 = some r) ∧ Aside0 (kq ≤ k1) ∧ Aside0 (Kd.R (Kd.int .u8) 5 w' w.heap.size (fun _ => True) u7 x7_1) ∧ Aside0 (Below w.heap.size w w'))
          case atStart => exact ⟨(1), (by first | rfl | (simp; done) | (simp [*]; done)), H', ⟨Nat.le_refl _⟩, ⟨by (with_reducible repeat (first | apply Kd.R_alloc | apply Kd.R_drewN | apply Kd.R_drew)); exact HO_7.out⟩, ⟨by repeat (first | (with_reducible first | exact HB.out | apply below_alloc | apply pw_below_drewN | apply below_drew1) | exact HB.out)⟩⟩
          case round =>
            clear H'
            try clear p2
            try clear c6
            try clear c6b0
            try clear p2
            obtain ⟨x9_2, rfl, HA, HK2, HO_7, HB⟩ := hrel
            cases gk with
            | zero => exact absurd HA.out (by simp [spec_Run.l1])
            | succ k2 =>
              have H := HA.out
              clear HA
              simp only [spec_Run.l1] at H
              by_cases c8 : (wrap64 (x8_1 + x9_2)) < (l0.length : Int)
              · rw [if_pos c8] at H
                have c8b0 : decide ((wrap64 (x8_1 + x9_2)) < (l0.length : Int)) = true := decide_eq_true c8
                clear c8
                (first | rw [c8b0] | (simp only [i64_w, i32_w]; rw [c8b0]) | skip)
                obtain ⟨ji9, hji9⟩ : ∃ j_ : Int, (wrap64 (x8_1 + x9_2)) = j_ := ⟨_, rfl⟩
                replace H : (if 0 ≤ (ji9) then (if 0 ≤ x8_1 then (if x8_1 < (l0.length : Int) then (if (rd l0 (ji9)) = (rd l0 x8_1) then (if x9_2 < 128 then (spec_Run.l1 k2 l0 a1 a2 x7_1 x8_1 (wrap64 (x9_2 + 1))) else (spec_Run.j2 k2 l0 a1 a2 x7_1 x8_1 x9_2)) else (spec_Run.j2 k2 l0 a1 a2 x7_1 x8_1 x9_2)) else (none)) else (none)) else (none)) = some r := by first | (rw [hji9] at H; exact H) | (simp only [hji9] at H ⊢; exact H)
                (try rw [hji9] at c8b0)
                have hji9w : (IntKind.i64.wrap (x8_1 + x9_2)) = ji9 := (i64_w _).trans hji9
                by_cases c10 : 0 ≤ (ji9)
                · rw [if_pos c10] at H
                  have c10b0 : decide (0 ≤ (ji9)) = true := decide_eq_true c10
                  clear c10
                  by_cases c11 : 0 ≤ x8_1
                  · rw [if_pos c11] at H
                    have c11b0 : decide (0 ≤ x8_1) = true := decide_eq_true c11
                    clear c11
                    by_cases c12 : x8_1 < (l0.length : Int)
                    · rw [if_pos c12] at H
                      have c12b0 : decide (x8_1 < (l0.length : Int)) = true := decide_eq_true c12
                      clear c12
                      by_cases c13 : (rd l0 (ji9)) = (rd l0 x8_1)
                      · rw [if_pos c13] at H
                        have c13b0 : ((rd l0 (ji9)) == (rd l0 x8_1)) = true := beq_iff_eq.mpr c13
                        have c13b1 : ((rd l0 (ji9)) != (rd l0 x8_1)) = false := bne_eq_false_iff_eq.mpr c13
                        clear c13
                        by_cases c14 : x9_2 < 128
                        · rw [if_pos c14] at H
                          have c14b0 : decide (x9_2 < 128) = true := decide_eq_true c14
                          clear c14
                          have H' := Aside0.mk H
                          clear H
                          try go_wp2
                          have n0_ := Aside0.mk (Kd.R_drew HO_7.out)
                          have n1_ := Aside0.mk (below_drew1 HB.out)
                          clear HO_7
                          clear HB
                          have HO_7 := n0_
                          have HB := n1_
                          clear n0_ n1_
                          have p109 : 0 ≤ ((ji9) : Int) := of_decide_eq_true (by first | (with_reducible assumption) | assumption)
                          have q109 : (ji9) < (l0.length : Int) := of_decide_eq_true (by first | (with_reducible assumption) | assumption)
                          obtain ⟨ad109, e109, hx109_0⟩ := Kd.at_int HR0.out (ji9) p109 q109
                          have hw109_0 := hx109_0
                          cases e109
                          replace hx109_0 := (HB.out.cell (World.block_lt_of_cell? w _ hx109_0)).trans hx109_0
                          replace p109 := eq_true p109
                          replace q109 := eq_true q109
                          have p110 : 0 ≤ (x8_1 : Int) := of_decide_eq_true (by first | (with_reducible assumption) | assumption)
                          have q110 : x8_1 < (l0.length : Int) := of_decide_eq_true (by first | (with_reducible assumption) | assumption)
                          obtain ⟨ad110, e110, hx110_0⟩ := Kd.at_int HR0.out x8_1 p110 q110
                          have hw110_0 := hx110_0
                          obtain rfl : ad109 = ad110 := (by injection e110)
                          replace hx110_0 := (HB.out.cell (World.block_lt_of_cell? w _ hx110_0)).trans hx110_0
                          replace p110 := eq_true p110
                          replace q110 := eq_true q110
                          refine start_ (n := 23) (S := fun w' => w'.cell? (ad109.add ((ji9)).toNat) = some (.int .u8 (rd l0 (ji9))) ∧ w'.cell? (ad109.add (x8_1).toNat) = some (.int .u8 (rd l0 x8_1))) (ds := []) #[false, false, false, false, false, false, false, false, false, false, false, false, false, false, false, false, false, false, false, false, false, false, false] (by kernel_rfl) rfl rfl ⟨((HB.out.cell (World.block_lt_of_cell? w _ hw109_0)).trans hw109_0), ((HB.out.cell (World.block_lt_of_cell? w _ hw110_0)).trans hw110_0)⟩ (fun hHeld => ?_); refine with_tabW spec_Run.tab5 spec_Run.bits5 (fun HT_ HW_ => ?_)
                          generalize wr.drew = w15 at HO_7 HB hx109_0 hx110_0 hHeld ⊢
                          refine pure_ (i := 0) (N := some 15) (v := ?_) (a' := ?_) #[true, false, false, false, false, false, false, false, false, false, false, false, false, false, false, false, false, false, false, false, false, false, false] rfl rfl (any_of HT_.out (by kernel_rfl)) (fun _ _ _ h => h) (Or.inl ⟨by rfl, ?_⟩) ?_ ?_
                          rotate_left
                          · intro w'
                            go_simp
                            with_reducible rfl
                          rotate_left
                          · simp only [Act.put, List.setIfInBounds_toArray, List.set_cons_zero, List.set_cons_succ, i64_w, i32_w]
                            rfl
                          refine pure_ (i := 1) (N := some 16) (v := ?_) (a' := ?_) #[true, true, false, false, false, false, false, false, false, false, false, false, false, false, false, false, false, false, false, false, false, false, false] rfl rfl (any_of HT_.out (by kernel_rfl)) (fun _ _ _ h => h) (Or.inl ⟨by rfl, ?_⟩) ?_ ?_
                          rotate_left
                          · intro w'
                            go_simp
                            with_reducible rfl
                          rotate_left
                          · simp only [Act.put, List.setIfInBounds_toArray, List.set_cons_zero, List.set_cons_succ, i64_w, i32_w]
                            rfl
                          refine pure_ (i := 2) (N := some 17) (v := ?_) (a' := ?_) #[true, true, true, false, false, false, false, false, false, false, false, false, false, false, false, false, false, false, false, false, false, false, false] rfl rfl (any_of HT_.out (by kernel_rfl)) (fun _ _ _ h => h) (Or.inl ⟨by rfl, ?_⟩) ?_ ?_
                          rotate_left
                          · intro w'
                            go_simp
                            with_reducible rfl
                          rotate_left
                          · simp only [Act.put, List.setIfInBounds_toArray, List.set_cons_zero, List.set_cons_succ, i64_w, i32_w]
                            rfl
                          refine pure_ (i := 3) (N := some 18) (v := ?_) (a' := ?_) #[true, true, true, true, false, false, false, false, false, false, false, false, false, false, false, false, false, false, false, false, false, false, false] rfl rfl (any_of HT_.out (by kernel_rfl)) (fun _ _ _ h => h) (Or.inl ⟨by rfl, ?_⟩) ?_ ?_
                          rotate_left
                          · intro w'
                            go_simp
                            with_reducible rfl
                          rotate_left
                          · simp only [Act.put, List.setIfInBounds_toArray, List.set_cons_zero, List.set_cons_succ, i64_w, i32_w]
                            rfl
                          refine pure_ (i := 4) (N := some 19) (v := ?_) (a' := ?_) #[true, true, true, true, true, false, false, false, false, false, false, false, false, false, false, false, false, false, false, false, false, false, false] rfl rfl (any_of HT_.out (by kernel_rfl)) (fun _ _ _ h => h) (Or.inl ⟨by rfl, ?_⟩) ?_ ?_
                          rotate_left
                          · intro w'
                            go_simp
                            with_reducible rfl
                          rotate_left
                          · simp only [Act.put, List.setIfInBounds_toArray, List.set_cons_zero, List.set_cons_succ, i64_w, i32_w]
                            rfl
                          refine pure_ (i := 5) (N := some 20) (v := ?_) (a' := ?_) #[true, true, true, true, true, true, false, false, false, false, false, false, false, false, false, false, false, false, false, false, false, false, false] rfl rfl (any_of HT_.out (by kernel_rfl)) (fun _ _ _ h => h) (Or.inl ⟨by rfl, ?_⟩) ?_ ?_
                          rotate_left
                          · intro w'
                            go_simp
                            with_reducible rfl
                          rotate_left
                          · simp only [Act.put, List.setIfInBounds_toArray, List.set_cons_zero, List.set_cons_succ, i64_w, i32_w]
                            rfl
                          refine pure_ (i := 6) (N := some 21) (v := ?_) (a' := ?_) #[true, true, true, true, true, true, true, false, false, false, false, false, false, false, false, false, false, false, false, false, false, false, false] rfl rfl (any_of HT_.out (by kernel_rfl)) (fun _ _ _ h => h) (Or.inl ⟨by rfl, ?_⟩) ?_ ?_
                          rotate_left
                          · intro w'
                            go_simp
                            with_reducible rfl
                          rotate_left
                          · simp only [Act.put, List.setIfInBounds_toArray, List.set_cons_zero, List.set_cons_succ, i64_w, i32_w]
                            rfl
                          refine pure_ (i := 7) (N := some 22) (v := ?_) (a' := ?_) #[true, true, true, true, true, true, true, true, false, false, false, false, false, false, false, false, false, false, false, false, false, false, false] rfl rfl (any_of HT_.out (by kernel_rfl)) (fun _ _ _ h => h) (Or.inl ⟨by rfl, ?_⟩) ?_ ?_
                          rotate_left
                          · intro w'
                            go_simp
                            with_reducible rfl
                          rotate_left
                          · simp only [Act.put, List.setIfInBounds_toArray, List.set_cons_zero, List.set_cons_succ, i64_w, i32_w]
                            rfl
                          refine pure_ (i := 8) (N := some 23) (v := ?_) (a' := ?_) #[true, true, true, true, true, true, true, true, true, false, false, false, false, false, false, false, false, false, false, false, false, false, false] rfl rfl (any_of HT_.out (by kernel_rfl)) (fun _ _ _ h => h) (Or.inl ⟨by rfl, ?_⟩) ?_ ?_
                          rotate_left
                          · intro w'
                            go_simp
                            with_reducible rfl
                          rotate_left
                          · simp only [Act.put, List.setIfInBounds_toArray, List.set_cons_zero, List.set_cons_succ, i64_w, i32_w]
                            rfl
                          refine pure_ (i := 9) (N := some 24) (v := ?_) (a' := ?_) #[true, true, true, true, true, true, true, true, true, true, false, false, false, false, false, false, false, false, false, false, false, false, false] rfl rfl (any_of HT_.out (by kernel_rfl)) (fun _ _ _ h => h) (Or.inl ⟨by rfl, ?_⟩) ?_ ?_
                          rotate_left
                          · intro w'
                            go_simp
                            with_reducible rfl
                          rotate_left
                          · simp only [Act.put, List.setIfInBounds_toArray, List.set_cons_zero, List.set_cons_succ, i64_w, i32_w]
                            rfl
                          refine pure_ (i := 10) (N := some 25) (v := ?_) (a' := ?_) #[true, true, true, true, true, true, true, true, true, true, true, false, false, false, false, false, false, false, false, false, false, false, false] rfl rfl (any_of HT_.out (by kernel_rfl)) (fun _ _ _ h => h) (Or.inl ⟨by rfl, ?_⟩) ?_ ?_
                          rotate_left
                          · intro w'
                            go_simp
                            with_reducible rfl
                          rotate_left
                          · simp only [Act.put, List.setIfInBounds_toArray, List.set_cons_zero, List.set_cons_succ, i64_w, i32_w]
                            rfl
                          refine pure_ (i := 11) (N := some 26) (v := ?_) (a' := ?_) #[true, true, true, true, true, true, true, true, true, true, true, true, false, false, false, false, false, false, false, false, false, false, false] rfl rfl (any_of HT_.out (by kernel_rfl)) (fun _ _ _ h => h) (Or.inl ⟨by rfl, ?_⟩) ?_ ?_
                          rotate_left
                          · intro w'
                            go_simp
                            with_reducible rfl
                          rotate_left
                          · simp only [Act.put, List.setIfInBounds_toArray, List.set_cons_zero, List.set_cons_succ, i64_w, i32_w]
                            rfl
                          refine pure_ (i := 13) (N := some 28) (v := ?_) (a' := ?_) #[true, true, true, true, true, true, true, true, true, true, true, true, false, true, false, false, false, false, false, false, false, false, false] rfl rfl (any_of HT_.out (by kernel_rfl)) (fun _ _ _ h => h) (Or.inl ⟨by rfl, ?_⟩) ?_ ?_
                          rotate_left
                          · intro w'
                            go_simp
                            with_reducible rfl
                          rotate_left
                          · simp only [Act.put, List.setIfInBounds_toArray, List.set_cons_zero, List.set_cons_succ, i64_w, i32_w]
                            rfl
                          refine pure_ (i := 14) (N := some 29) (v := ?_) (a' := ?_) #[true, true, true, true, true, true, true, true, true, true, true, true, false, true, true, false, false, false, false, false, false, false, false] rfl rfl (any_of HT_.out (by kernel_rfl)) (fun _ _ _ h => h) (Or.inl ⟨by rfl, ?_⟩) ?_ ?_
                          rotate_left
                          · intro w'
                            go_simp
                            with_reducible rfl
                          rotate_left
                          · simp only [Act.put, List.setIfInBounds_toArray, List.set_cons_zero, List.set_cons_succ, i64_w, i32_w]
                            rfl
                          refine pure_ (i := 15) (N := some 30) (v := ?_) (a' := ?_) #[true, true, true, true, true, true, true, true, true, true, true, true, false, true, true, true, false, false, false, false, false, false, false] rfl rfl (any_of HT_.out (by kernel_rfl)) (fun _ _ _ h => h) (Or.inl ⟨by rfl, ?_⟩) ?_ ?_
                          rotate_left
                          · intro w'
                            go_simp
                            with_reducible rfl
                          rotate_left
                          · simp only [Act.put, List.setIfInBounds_toArray, List.set_cons_zero, List.set_cons_succ, i64_w, i32_w]
                            rfl
                          refine take_ (i := 12) (N := some 27) (v := ?_) (a' := ?_) #[true, true, true, true, true, true, true, true, true, true, true, true, true, true, true, true, false, false, false, false, false, false, false] rfl rfl (take_ofW HT_.out HW_.out (by kernel_rfl)) (fun _ _ _ h => h) (Or.inl ⟨by rfl, ?_⟩) hHeld ?_ ?_
                          rotate_left
                          · rintro w' ⟨s0, s1⟩
                            go_simp
                            with_reducible rfl
                          rotate_left
                          · simp only [Act.put, List.setIfInBounds_toArray, List.set_cons_zero, List.set_cons_succ, i64_w, i32_w]
                            rfl
                          refine take_ (i := 16) (N := some 31) (v := ?_) (a' := ?_) #[true, true, true, true, true, true, true, true, true, true, true, true, true, true, true, true, true, false, false, false, false, false, false] rfl rfl (take_ofW HT_.out HW_.out (by kernel_rfl)) (fun _ _ _ h => h) (Or.inl ⟨by rfl, ?_⟩) hHeld ?_ ?_
                          rotate_left
                          · rintro w' ⟨s0, s1⟩
                            go_simp
                            with_reducible rfl
                          rotate_left
                          · simp only [Act.put, List.setIfInBounds_toArray, List.set_cons_zero, List.set_cons_succ, i64_w, i32_w]
                            rfl
                          refine pure_ (i := 17) (N := some 32) (v := ?_) (a' := ?_) #[true, true, true, true, true, true, true, true, true, true, true, true, true, true, true, true, true, true, false, false, false, false, false] rfl rfl (any_of HT_.out (by kernel_rfl)) (fun _ _ _ h => h) (Or.inl ⟨by rfl, ?_⟩) ?_ ?_
                          rotate_left
                          · intro w'
                            go_simp
                            with_reducible rfl
                          rotate_left
                          · simp only [Act.put, List.setIfInBounds_toArray, List.set_cons_zero, List.set_cons_succ, i64_w, i32_w]
                            rfl
                          refine pure_ (i := 18) (N := some 33) (v := ?_) (a' := ?_) #[true, true, true, true, true, true, true, true, true, true, true, true, true, true, true, true, true, true, true, false, false, false, false] rfl rfl (any_of HT_.out (by kernel_rfl)) (fun _ _ _ h => h) (Or.inl ⟨by rfl, ?_⟩) ?_ ?_
                          rotate_left
                          · intro w'
                            go_simp
                            with_reducible rfl
                          rotate_left
                          · simp only [Act.put, List.setIfInBounds_toArray, List.set_cons_zero, List.set_cons_succ, i64_w, i32_w]
                            rfl
                          refine pure_ (i := 19) (N := some 34) (v := ?_) (a' := ?_) #[true, true, true, true, true, true, true, true, true, true, true, true, true, true, true, true, true, true, true, true, false, false, false] rfl rfl (any_of HT_.out (by kernel_rfl)) (fun _ _ _ h => h) (Or.inl ⟨by rfl, ?_⟩) ?_ ?_
                          rotate_left
                          · intro w'
                            go_simp
                            with_reducible rfl
                          rotate_left
                          · simp only [Act.put, List.setIfInBounds_toArray, List.set_cons_zero, List.set_cons_succ, i64_w, i32_w]
                            rfl
                          refine pure_ (i := 20) (N := some 35) (v := ?_) (a' := ?_) #[true, true, true, true, true, true, true, true, true, true, true, true, true, true, true, true, true, true, true, true, true, false, false] rfl rfl (any_of HT_.out (by kernel_rfl)) (fun _ _ _ h => h) (Or.inl ⟨by rfl, ?_⟩) ?_ ?_
                          rotate_left
                          · intro w'
                            go_simp
                            with_reducible rfl
                          rotate_left
                          · simp only [Act.put, List.setIfInBounds_toArray, List.set_cons_zero, List.set_cons_succ, i64_w, i32_w]
                            rfl
                          refine pure_ (i := 21) (N := some 36) (v := ?_) (a' := ?_) #[true, true, true, true, true, true, true, true, true, true, true, true, true, true, true, true, true, true, true, true, true, true, false] rfl rfl (any_of HT_.out (by kernel_rfl)) (fun _ _ _ h => h) (Or.inl ⟨by rfl, ?_⟩) ?_ ?_
                          rotate_left
                          · intro w'
                            go_simp
                            with_reducible rfl
                          rotate_left
                          · simp only [Act.put, List.setIfInBounds_toArray, List.set_cons_zero, List.set_cons_succ, i64_w, i32_w]
                            rfl
                          refine pure_ (i := 22) (N := some 37) (v := ?_) (a' := ?_) #[true, true, true, true, true, true, true, true, true, true, true, true, true, true, true, true, true, true, true, true, true, true, true] rfl rfl (any_of HT_.out (by kernel_rfl)) (fun _ _ _ h => h) (Or.inl ⟨by rfl, ?_⟩) ?_ ?_
                          rotate_left
                          · intro w'
                            go_simp
                            with_reducible rfl
                          rotate_left
                          · simp only [Act.put, List.setIfInBounds_toArray, List.set_cons_zero, List.set_cons_succ, i64_w, i32_w]
                            rfl
                          refine done_ (done_of HT_.out (by kernel_rfl)) ?_
                          try go_wp2
                          go_roundg k2
                          case measure => have := HK1.out; have := HK2.out; omega
                          case rel => exact ⟨(wrap64 (x9_2 + 1)), (by first | rfl | (simp; done) | (simp [*]; done)), H', ⟨by have := HK1.out; have := HK2.out; omega⟩, ⟨by (with_reducible repeat (first | apply Kd.R_alloc | apply Kd.R_drewN | apply Kd.R_drew)); exact HO_7.out⟩, ⟨by repeat (first | (with_reducible first | exact HB.out | apply below_alloc | apply pw_below_drewN | apply below_drew1) | exact HB.out)⟩⟩
                        · rw [if_neg c14] at H
                          have c14b0 : decide (x9_2 < 128) = false := decide_eq_false c14
                          clear c14
                          have H' := Aside0.mk H
                          clear H
                          try go_wp2
                          have n0_ := Aside0.mk (Kd.R_drew HO_7.out)
                          have n1_ := Aside0.mk (below_drew1 HB.out)
                          clear HO_7
                          clear HB
                          have HO_7 := n0_
                          have HB := n1_
                          clear n0_ n1_
                          have p109 : 0 ≤ ((ji9) : Int) := of_decide_eq_true (by first | (with_reducible assumption) | assumption)
                          have q109 : (ji9) < (l0.length : Int) := of_decide_eq_true (by first | (with_reducible assumption) | assumption)
                          obtain ⟨ad109, e109, hx109_0⟩ := Kd.at_int HR0.out (ji9) p109 q109
                          have hw109_0 := hx109_0
                          cases e109
                          replace hx109_0 := (HB.out.cell (World.block_lt_of_cell? w _ hx109_0)).trans hx109_0
                          replace p109 := eq_true p109
                          replace q109 := eq_true q109
                          have p110 : 0 ≤ (x8_1 : Int) := of_decide_eq_true (by first | (with_reducible assumption) | assumption)
                          have q110 : x8_1 < (l0.length : Int) := of_decide_eq_true (by first | (with_reducible assumption) | assumption)
                          obtain ⟨ad110, e110, hx110_0⟩ := Kd.at_int HR0.out x8_1 p110 q110
                          have hw110_0 := hx110_0
                          obtain rfl : ad109 = ad110 := (by injection e110)
                          replace hx110_0 := (HB.out.cell (World.block_lt_of_cell? w _ hx110_0)).trans hx110_0
                          replace p110 := eq_true p110
                          replace q110 := eq_true q110
                          refine start_ (n := 23) (S := fun w' => w'.cell? (ad109.add ((ji9)).toNat) = some (.int .u8 (rd l0 (ji9))) ∧ w'.cell? (ad109.add (x8_1).toNat) = some (.int .u8 (rd l0 x8_1))) (ds := []) #[false, false, false, false, false, false, false, false, false, false, false, false, false, false, false, false, false, false, false, false, false, false, false] (by kernel_rfl) rfl rfl ⟨((HB.out.cell (World.block_lt_of_cell? w _ hw109_0)).trans hw109_0), ((HB.out.cell (World.block_lt_of_cell? w _ hw110_0)).trans hw110_0)⟩ (fun hHeld => ?_); refine with_tabW spec_Run.tab5 spec_Run.bits5 (fun HT_ HW_ => ?_)
                          generalize wr.drew = w16 at HO_7 HB hx109_0 hx110_0 hHeld ⊢
                          refine pure_ (i := 0) (N := some 15) (v := ?_) (a' := ?_) #[true, false, false, false, false, false, false, false, false, false, false, false, false, false, false, false, false, false, false, false, false, false, false] rfl rfl (any_of HT_.out (by kernel_rfl)) (fun _ _ _ h => h) (Or.inl ⟨by rfl, ?_⟩) ?_ ?_
                          rotate_left
                          · intro w'
                            go_simp
                            with_reducible rfl
                          rotate_left
                          · simp only [Act.put, List.setIfInBounds_toArray, List.set_cons_zero, List.set_cons_succ, i64_w, i32_w]
                            rfl
                          refine pure_ (i := 1) (N := some 16) (v := ?_) (a' := ?_) #[true, true, false, false, false, false, false, false, false, false, false, false, false, false, false, false, false, false, false, false, false, false, false] rfl rfl (any_of HT_.out (by kernel_rfl)) (fun _ _ _ h => h) (Or.inl ⟨by rfl, ?_⟩) ?_ ?_
                          rotate_left
                          · intro w'
                            go_simp
                            with_reducible rfl
                          rotate_left
                          · simp only [Act.put, List.setIfInBounds_toArray, List.set_cons_zero, List.set_cons_succ, i64_w, i32_w]
                            rfl
                          refine pure_ (i := 2) (N := some 17) (v := ?_) (a' := ?_) #[true, true, true, false, false, false, false, false, false, false, false, false, false, false, false, false, false, false, false, false, false, false, false] rfl rfl (any_of HT_.out (by kernel_rfl)) (fun _ _ _ h => h) (Or.inl ⟨by rfl, ?_⟩) ?_ ?_
                          rotate_left
                          · intro w'
                            go_simp
                            with_reducible rfl
                          rotate_left
                          · simp only [Act.put, List.setIfInBounds_toArray, List.set_cons_zero, List.set_cons_succ, i64_w, i32_w]
                            rfl
                          refine pure_ (i := 3) (N := some 18) (v := ?_) (a' := ?_) #[true, true, true, true, false, false, false, false, false, false, false, false, false, false, false, false, false, false, false, false, false, false, false] rfl rfl (any_of HT_.out (by kernel_rfl)) (fun _ _ _ h => h) (Or.inl ⟨by rfl, ?_⟩) ?_ ?_
                          rotate_left
                          · intro w'
                            go_simp
                            with_reducible rfl
                          rotate_left
                          · simp only [Act.put, List.setIfInBounds_toArray, List.set_cons_zero, List.set_cons_succ, i64_w, i32_w]
                            rfl
                          refine pure_ (i := 4) (N := some 19) (v := ?_) (a' := ?_) #[true, true, true, true, true, false, false, false, false, false, false, false, false, false, false, false, false, false, false, false, false, false, false] rfl rfl (any_of HT_.out (by kernel_rfl)) (fun _ _ _ h => h) (Or.inl ⟨by rfl, ?_⟩) ?_ ?_
                          rotate_left
                          · intro w'
                            go_simp
                            with_reducible rfl
                          rotate_left
                          · simp only [Act.put, List.setIfInBounds_toArray, List.set_cons_zero, List.set_cons_succ, i64_w, i32_w]
                            rfl
                          refine pure_ (i := 5) (N := some 20) (v := ?_) (a' := ?_) #[true, true, true, true, true, true, false, false, false, false, false, false, false, false, false, false, false, false, false, false, false, false, false] rfl rfl (any_of HT_.out (by kernel_rfl)) (fun _ _ _ h => h) (Or.inl ⟨by rfl, ?_⟩) ?_ ?_
                          rotate_left
                          · intro w'
                            go_simp
                            with_reducible rfl
                          rotate_left
                          · simp only [Act.put, List.setIfInBounds_toArray, List.set_cons_zero, List.set_cons_succ, i64_w, i32_w]
                            rfl
                          refine pure_ (i := 6) (N := some 21) (v := ?_) (a' := ?_) #[true, true, true, true, true, true, true, false, false, false, false, false, false, false, false, false, false, false, false, false, false, false, false] rfl rfl (any_of HT_.out (by kernel_rfl)) (fun _ _ _ h => h) (Or.inl ⟨by rfl, ?_⟩) ?_ ?_
                          rotate_left
                          · intro w'
                            go_simp
                            with_reducible rfl
                          rotate_left
                          · simp only [Act.put, List.setIfInBounds_toArray, List.set_cons_zero, List.set_cons_succ, i64_w, i32_w]
                            rfl
                          refine pure_ (i := 7) (N := some 22) (v := ?_) (a' := ?_) #[true, true, true, true, true, true, true, true, false, false, false, false, false, false, false, false, false, false, false, false, false, false, false] rfl rfl (any_of HT_.out (by kernel_rfl)) (fun _ _ _ h => h) (Or.inl ⟨by rfl, ?_⟩) ?_ ?_
                          rotate_left
                          · intro w'
                            go_simp
                            with_reducible rfl
                          rotate_left
                          · simp only [Act.put, List.setIfInBounds_toArray, List.set_cons_zero, List.set_cons_succ, i64_w, i32_w]
                            rfl
                          refine pure_ (i := 8) (N := some 23) (v := ?_) (a' := ?_) #[true, true, true, true, true, true, true, true, true, false, false, false, false, false, false, false, false, false, false, false, false, false, false] rfl rfl (any_of HT_.out (by kernel_rfl)) (fun _ _ _ h => h) (Or.inl ⟨by rfl, ?_⟩) ?_ ?_
                          rotate_left
                          · intro w'
                            go_simp
                            with_reducible rfl
                          rotate_left
                          · simp only [Act.put, List.setIfInBounds_toArray, List.set_cons_zero, List.set_cons_succ, i64_w, i32_w]
                            rfl
                          refine pure_ (i := 9) (N := some 24) (v := ?_) (a' := ?_) #[true, true, true, true, true, true, true, true, true, true, false, false, false, false, false, false, false, false, false, false, false, false, false] rfl rfl (any_of HT_.out (by kernel_rfl)) (fun _ _ _ h => h) (Or.inl ⟨by rfl, ?_⟩) ?_ ?_
                          rotate_left
                          · intro w'
                            go_simp
                            with_reducible rfl
                          rotate_left
                          · simp only [Act.put, List.setIfInBounds_toArray, List.set_cons_zero, List.set_cons_succ, i64_w, i32_w]
                            rfl
                          refine pure_ (i := 10) (N := some 25) (v := ?_) (a' := ?_) #[true, true, true, true, true, true, true, true, true, true, true, false, false, false, false, false, false, false, false, false, false, false, false] rfl rfl (any_of HT_.out (by kernel_rfl)) (fun _ _ _ h => h) (Or.inl ⟨by rfl, ?_⟩) ?_ ?_
                          rotate_left
                          · intro w'
                            go_simp
                            with_reducible rfl
                          rotate_left
                          · simp only [Act.put, List.setIfInBounds_toArray, List.set_cons_zero, List.set_cons_succ, i64_w, i32_w]
                            rfl
                          refine pure_ (i := 11) (N := some 26) (v := ?_) (a' := ?_) #[true, true, true, true, true, true, true, true, true, true, true, true, false, false, false, false, false, false, false, false, false, false, false] rfl rfl (any_of HT_.out (by kernel_rfl)) (fun _ _ _ h => h) (Or.inl ⟨by rfl, ?_⟩) ?_ ?_
                          rotate_left
                          · intro w'
                            go_simp
                            with_reducible rfl
                          rotate_left
                          · simp only [Act.put, List.setIfInBounds_toArray, List.set_cons_zero, List.set_cons_succ, i64_w, i32_w]
                            rfl
                          refine pure_ (i := 13) (N := some 28) (v := ?_) (a' := ?_) #[true, true, true, true, true, true, true, true, true, true, true, true, false, true, false, false, false, false, false, false, false, false, false] rfl rfl (any_of HT_.out (by kernel_rfl)) (fun _ _ _ h => h) (Or.inl ⟨by rfl, ?_⟩) ?_ ?_
                          rotate_left
                          · intro w'
                            go_simp
                            with_reducible rfl
                          rotate_left
                          · simp only [Act.put, List.setIfInBounds_toArray, List.set_cons_zero, List.set_cons_succ, i64_w, i32_w]
                            rfl
                          refine pure_ (i := 14) (N := some 29) (v := ?_) (a' := ?_) #[true, true, true, true, true, true, true, true, true, true, true, true, false, true, true, false, false, false, false, false, false, false, false] rfl rfl (any_of HT_.out (by kernel_rfl)) (fun _ _ _ h => h) (Or.inl ⟨by rfl, ?_⟩) ?_ ?_
                          rotate_left
                          · intro w'
                            go_simp
                            with_reducible rfl
                          rotate_left
                          · simp only [Act.put, List.setIfInBounds_toArray, List.set_cons_zero, List.set_cons_succ, i64_w, i32_w]
                            rfl
                          refine pure_ (i := 15) (N := some 30) (v := ?_) (a' := ?_) #[true, true, true, true, true, true, true, true, true, true, true, true, false, true, true, true, false, false, false, false, false, false, false] rfl rfl (any_of HT_.out (by kernel_rfl)) (fun _ _ _ h => h) (Or.inl ⟨by rfl, ?_⟩) ?_ ?_
                          rotate_left
                          · intro w'
                            go_simp
                            with_reducible rfl
                          rotate_left
                          · simp only [Act.put, List.setIfInBounds_toArray, List.set_cons_zero, List.set_cons_succ, i64_w, i32_w]
                            rfl
                          refine take_ (i := 12) (N := some 27) (v := ?_) (a' := ?_) #[true, true, true, true, true, true, true, true, true, true, true, true, true, true, true, true, false, false, false, false, false, false, false] rfl rfl (take_ofW HT_.out HW_.out (by kernel_rfl)) (fun _ _ _ h => h) (Or.inl ⟨by rfl, ?_⟩) hHeld ?_ ?_
                          rotate_left
                          · rintro w' ⟨s0, s1⟩
                            go_simp
                            with_reducible rfl
                          rotate_left
                          · simp only [Act.put, List.setIfInBounds_toArray, List.set_cons_zero, List.set_cons_succ, i64_w, i32_w]
                            rfl
                          refine take_ (i := 16) (N := some 31) (v := ?_) (a' := ?_) #[true, true, true, true, true, true, true, true, true, true, true, true, true, true, true, true, true, false, false, false, false, false, false] rfl rfl (take_ofW HT_.out HW_.out (by kernel_rfl)) (fun _ _ _ h => h) (Or.inl ⟨by rfl, ?_⟩) hHeld ?_ ?_
                          rotate_left
                          · rintro w' ⟨s0, s1⟩
                            go_simp
                            with_reducible rfl
                          rotate_left
                          · simp only [Act.put, List.setIfInBounds_toArray, List.set_cons_zero, List.set_cons_succ, i64_w, i32_w]
                            rfl
                          refine pure_ (i := 17) (N := some 32) (v := ?_) (a' := ?_) #[true, true, true, true, true, true, true, true, true, true, true, true, true, true, true, true, true, true, false, false, false, false, false] rfl rfl (any_of HT_.out (by kernel_rfl)) (fun _ _ _ h => h) (Or.inl ⟨by rfl, ?_⟩) ?_ ?_
                          rotate_left
                          · intro w'
                            go_simp
                            with_reducible rfl
                          rotate_left
                          · simp only [Act.put, List.setIfInBounds_toArray, List.set_cons_zero, List.set_cons_succ, i64_w, i32_w]
                            rfl
                          refine pure_ (i := 18) (N := some 33) (v := ?_) (a' := ?_) #[true, true, true, true, true, true, true, true, true, true, true, true, true, true, true, true, true, true, true, false, false, false, false] rfl rfl (any_of HT_.out (by kernel_rfl)) (fun _ _ _ h => h) (Or.inl ⟨by rfl, ?_⟩) ?_ ?_
                          rotate_left
                          · intro w'
                            go_simp
                            with_reducible rfl
                          rotate_left
                          · simp only [Act.put, List.setIfInBounds_toArray, List.set_cons_zero, List.set_cons_succ, i64_w, i32_w]
                            rfl
                          refine pure_ (i := 19) (N := some 34) (v := ?_) (a' := ?_) #[true, true, true, true, true, true, true, true, true, true, true, true, true, true, true, true, true, true, true, true, false, false, false] rfl rfl (any_of HT_.out (by kernel_rfl)) (fun _ _ _ h => h) (Or.inl ⟨by rfl, ?_⟩) ?_ ?_
                          rotate_left
                          · intro w'
                            go_simp
                            with_reducible rfl
                          rotate_left
                          · simp only [Act.put, List.setIfInBounds_toArray, List.set_cons_zero, List.set_cons_succ, i64_w, i32_w]
                            rfl
                          refine pure_ (i := 20) (N := some 35) (v := ?_) (a' := ?_) #[true, true, true, true, true, true, true, true, true, true, true, true, true, true, true, true, true, true, true, true, true, false, false] rfl rfl (any_of HT_.out (by kernel_rfl)) (fun _ _ _ h => h) (Or.inl ⟨by rfl, ?_⟩) ?_ ?_
                          rotate_left
                          · intro w'
                            go_simp
                            with_reducible rfl
                          rotate_left
                          · simp only [Act.put, List.setIfInBounds_toArray, List.set_cons_zero, List.set_cons_succ, i64_w, i32_w]
                            rfl
                          refine pure_ (i := 21) (N := some 36) (v := ?_) (a' := ?_) #[true, true, true, true, true, true, true, true, true, true, true, true, true, true, true, true, true, true, true, true, true, true, false] rfl rfl (any_of HT_.out (by kernel_rfl)) (fun _ _ _ h => h) (Or.inl ⟨by rfl, ?_⟩) ?_ ?_
                          rotate_left
                          · intro w'
                            go_simp
                            with_reducible rfl
                          rotate_left
                          · simp only [Act.put, List.setIfInBounds_toArray, List.set_cons_zero, List.set_cons_succ, i64_w, i32_w]
                            rfl
                          refine pure_ (i := 22) (N := some 37) (v := ?_) (a' := ?_) #[true, true, true, true, true, true, true, true, true, true, true, true, true, true, true, true, true, true, true, true, true, true, true] rfl rfl (any_of HT_.out (by kernel_rfl)) (fun _ _ _ h => h) (Or.inl ⟨by rfl, ?_⟩) ?_ ?_
                          rotate_left
                          · intro w'
                            go_simp
                            with_reducible rfl
                          rotate_left
                          · simp only [Act.put, List.setIfInBounds_toArray, List.set_cons_zero, List.set_cons_succ, i64_w, i32_w]
                            rfl
                          refine done_ (done_of HT_.out (by kernel_rfl)) ?_
                          try go_wp2
                          go_meet
                          case rel => exact ⟨_, (x9_2), (by first | rfl | (simp; done) | (simp [*]; done)), H', ⟨by have := HK1.out; have := HK2.out; first | omega | exact Nat.le_refl _⟩, ⟨by (with_reducible repeat (first | apply Kd.R_alloc | apply Kd.R_drewN | apply Kd.R_drew)); exact HO_7.out⟩, ⟨by repeat (first | (with_reducible first | exact HB.out | apply below_alloc | apply pw_below_drewN | apply below_drew1) | exact HB.out)⟩⟩
                      · rw [if_neg c13] at H
                        have c13b0 : ((rd l0 (ji9)) == (rd l0 x8_1)) = false := beq_eq_false_iff_ne.mpr c13
                        have c13b1 : ((rd l0 (ji9)) != (rd l0 x8_1)) = true := bne_iff_ne.mpr c13
                        have H' := Aside0.mk H
                        clear H
                        try go_wp2
                        have n0_ := Aside0.mk (Kd.R_drew HO_7.out)
                        have n1_ := Aside0.mk (below_drew1 HB.out)
                        clear HO_7
                        clear HB
                        have HO_7 := n0_
                        have HB := n1_
                        clear n0_ n1_
                        have p109 : 0 ≤ ((ji9) : Int) := of_decide_eq_true (by first | (with_reducible assumption) | assumption)
                        have q109 : (ji9) < (l0.length : Int) := of_decide_eq_true (by first | (with_reducible assumption) | assumption)
                        obtain ⟨ad109, e109, hx109_0⟩ := Kd.at_int HR0.out (ji9) p109 q109
                        have hw109_0 := hx109_0
                        cases e109
                        replace hx109_0 := (HB.out.cell (World.block_lt_of_cell? w _ hx109_0)).trans hx109_0
                        replace p109 := eq_true p109
                        replace q109 := eq_true q109
                        have p110 : 0 ≤ (x8_1 : Int) := of_decide_eq_true (by first | (with_reducible assumption) | assumption)
                        have q110 : x8_1 < (l0.length : Int) := of_decide_eq_true (by first | (with_reducible assumption) | assumption)
                        obtain ⟨ad110, e110, hx110_0⟩ := Kd.at_int HR0.out x8_1 p110 q110
                        have hw110_0 := hx110_0
                        obtain rfl : ad109 = ad110 := (by injection e110)
                        replace hx110_0 := (HB.out.cell (World.block_lt_of_cell? w _ hx110_0)).trans hx110_0
                        replace p110 := eq_true p110
                        replace q110 := eq_true q110
                        refine start_ (n := 23) (S := fun w' => w'.cell? (ad109.add ((ji9)).toNat) = some (.int .u8 (rd l0 (ji9))) ∧ w'.cell? (ad109.add (x8_1).toNat) = some (.int .u8 (rd l0 x8_1))) (ds := []) #[false, false, false, false, false, false, false, false, false, false, false, false, false, false, false, false, false, false, false, false, false, false, false] (by kernel_rfl) rfl rfl ⟨((HB.out.cell (World.block_lt_of_cell? w _ hw109_0)).trans hw109_0), ((HB.out.cell (World.block_lt_of_cell? w _ hw110_0)).trans hw110_0)⟩ (fun hHeld => ?_); refine with_tabW spec_Run.tab5 spec_Run.bits5 (fun HT_ HW_ => ?_)
                        generalize wr.drew = w17 at HO_7 HB hx109_0 hx110_0 hHeld ⊢
                        refine pure_ (i := 0) (N := some 15) (v := ?_) (a' := ?_) #[true, false, false, false, false, false, false, false, false, false, false, false, false, false, false, false, false, false, false, false, false, false, false] rfl rfl (any_of HT_.out (by kernel_rfl)) (fun _ _ _ h => h) (Or.inl ⟨by rfl, ?_⟩) ?_ ?_
                        rotate_left
                        · intro w'
                          go_simp
                          with_reducible rfl
                        rotate_left
                        · simp only [Act.put, List.setIfInBounds_toArray, List.set_cons_zero, List.set_cons_succ, i64_w, i32_w]
                          rfl
                        refine pure_ (i := 1) (N := some 16) (v := ?_) (a' := ?_) #[true, true, false, false, false, false, false, false, false, false, false, false, false, false, false, false, false, false, false, false, false, false, false] rfl rfl (any_of HT_.out (by kernel_rfl)) (fun _ _ _ h => h) (Or.inl ⟨by rfl, ?_⟩) ?_ ?_
                        rotate_left
                        · intro w'
                          go_simp
                          with_reducible rfl
                        rotate_left
                        · simp only [Act.put, List.setIfInBounds_toArray, List.set_cons_zero, List.set_cons_succ, i64_w, i32_w]
                          rfl
                        refine pure_ (i := 2) (N := some 17) (v := ?_) (a' := ?_) #[true, true, true, false, false, false, false, false, false, false, false, false, false, false, false, false, false, false, false, false, false, false, false] rfl rfl (any_of HT_.out (by kernel_rfl)) (fun _ _ _ h => h) (Or.inl ⟨by rfl, ?_⟩) ?_ ?_
                        rotate_left
                        · intro w'
                          go_simp
                          with_reducible rfl
                        rotate_left
                        · simp only [Act.put, List.setIfInBounds_toArray, List.set_cons_zero, List.set_cons_succ, i64_w, i32_w]
                          rfl
                        refine pure_ (i := 3) (N := some 18) (v := ?_) (a' := ?_) #[true, true, true, true, false, false, false, false, false, false, false, false, false, false, false, false, false, false, false, false, false, false, false] rfl rfl (any_of HT_.out (by kernel_rfl)) (fun _ _ _ h => h) (Or.inl ⟨by rfl, ?_⟩) ?_ ?_
                        rotate_left
                        · intro w'
                          go_simp
                          with_reducible rfl
                        rotate_left
                        · simp only [Act.put, List.setIfInBounds_toArray, List.set_cons_zero, List.set_cons_succ, i64_w, i32_w]
                          rfl
                        refine pure_ (i := 4) (N := some 19) (v := ?_) (a' := ?_) #[true, true, true, true, true, false, false, false, false, false, false, false, false, false, false, false, false, false, false, false, false, false, false] rfl rfl (any_of HT_.out (by kernel_rfl)) (fun _ _ _ h => h) (Or.inl ⟨by rfl, ?_⟩) ?_ ?_
                        rotate_left
                        · intro w'
                          go_simp
                          with_reducible rfl
                        rotate_left
                        · simp only [Act.put, List.setIfInBounds_toArray, List.set_cons_zero, List.set_cons_succ, i64_w, i32_w]
                          rfl
                        refine pure_ (i := 5) (N := some 20) (v := ?_) (a' := ?_) #[true, true, true, true, true, true, false, false, false, false, false, false, false, false, false, false, false, false, false, false, false, false, false] rfl rfl (any_of HT_.out (by kernel_rfl)) (fun _ _ _ h => h) (Or.inl ⟨by rfl, ?_⟩) ?_ ?_
                        rotate_left
                        · intro w'
                          go_simp
                          with_reducible rfl
                        rotate_left
                        · simp only [Act.put, List.setIfInBounds_toArray, List.set_cons_zero, List.set_cons_succ, i64_w, i32_w]
                          rfl
                        refine pure_ (i := 6) (N := some 21) (v := ?_) (a' := ?_) #[true, true, true, true, true, true, true, false, false, false, false, false, false, false, false, false, false, false, false, false, false, false, false] rfl rfl (any_of HT_.out (by kernel_rfl)) (fun _ _ _ h => h) (Or.inl ⟨by rfl, ?_⟩) ?_ ?_
                        rotate_left
                        · intro w'
                          go_simp
                          with_reducible rfl
                        rotate_left
                        · simp only [Act.put, List.setIfInBounds_toArray, List.set_cons_zero, List.set_cons_succ, i64_w, i32_w]
                          rfl
                        refine pure_ (i := 7) (N := some 22) (v := ?_) (a' := ?_) #[true, true, true, true, true, true, true, true, false, false, false, false, false, false, false, false, false, false, false, false, false, false, false] rfl rfl (any_of HT_.out (by kernel_rfl)) (fun _ _ _ h => h) (Or.inl ⟨by rfl, ?_⟩) ?_ ?_
                        rotate_left
                        · intro w'
                          go_simp
                          with_reducible rfl
                        rotate_left
                        · simp only [Act.put, List.setIfInBounds_toArray, List.set_cons_zero, List.set_cons_succ, i64_w, i32_w]
                          rfl
                        refine pure_ (i := 8) (N := some 23) (v := ?_) (a' := ?_) #[true, true, true, true, true, true, true, true, true, false, false, false, false, false, false, false, false, false, false, false, false, false, false] rfl rfl (any_of HT_.out (by kernel_rfl)) (fun _ _ _ h => h) (Or.inl ⟨by rfl, ?_⟩) ?_ ?_
                        rotate_left
                        · intro w'
                          go_simp
                          with_reducible rfl
                        rotate_left
                        · simp only [Act.put, List.setIfInBounds_toArray, List.set_cons_zero, List.set_cons_succ, i64_w, i32_w]
                          rfl
                        refine pure_ (i := 9) (N := some 24) (v := ?_) (a' := ?_) #[true, true, true, true, true, true, true, true, true, true, false, false, false, false, false, false, false, false, false, false, false, false, false] rfl rfl (any_of HT_.out (by kernel_rfl)) (fun _ _ _ h => h) (Or.inl ⟨by rfl, ?_⟩) ?_ ?_
                        rotate_left
                        · intro w'
                          go_simp
                          with_reducible rfl
                        rotate_left
                        · simp only [Act.put, List.setIfInBounds_toArray, List.set_cons_zero, List.set_cons_succ, i64_w, i32_w]
                          rfl
                        refine pure_ (i := 10) (N := some 25) (v := ?_) (a' := ?_) #[true, true, true, true, true, true, true, true, true, true, true, false, false, false, false, false, false, false, false, false, false, false, false] rfl rfl (any_of HT_.out (by kernel_rfl)) (fun _ _ _ h => h) (Or.inl ⟨by rfl, ?_⟩) ?_ ?_
                        rotate_left
                        · intro w'
                          go_simp
                          with_reducible rfl
                        rotate_left
                        · simp only [Act.put, List.setIfInBounds_toArray, List.set_cons_zero, List.set_cons_succ, i64_w, i32_w]
                          rfl
                        refine pure_ (i := 11) (N := some 26) (v := ?_) (a' := ?_) #[true, true, true, true, true, true, true, true, true, true, true, true, false, false, false, false, false, false, false, false, false, false, false] rfl rfl (any_of HT_.out (by kernel_rfl)) (fun _ _ _ h => h) (Or.inl ⟨by rfl, ?_⟩) ?_ ?_
                        rotate_left
                        · intro w'
                          go_simp
                          with_reducible rfl
                        rotate_left
                        · simp only [Act.put, List.setIfInBounds_toArray, List.set_cons_zero, List.set_cons_succ, i64_w, i32_w]
                          rfl
                        refine pure_ (i := 13) (N := some 28) (v := ?_) (a' := ?_) #[true, true, true, true, true, true, true, true, true, true, true, true, false, true, false, false, false, false, false, false, false, false, false] rfl rfl (any_of HT_.out (by kernel_rfl)) (fun _ _ _ h => h) (Or.inl ⟨by rfl, ?_⟩) ?_ ?_
                        rotate_left
                        · intro w'
                          go_simp
                          with_reducible rfl
                        rotate_left
                        · simp only [Act.put, List.setIfInBounds_toArray, List.set_cons_zero, List.set_cons_succ, i64_w, i32_w]
                          rfl
                        refine pure_ (i := 14) (N := some 29) (v := ?_) (a' := ?_) #[true, true, true, true, true, true, true, true, true, true, true, true, false, true, true, false, false, false, false, false, false, false, false] rfl rfl (any_of HT_.out (by kernel_rfl)) (fun _ _ _ h => h) (Or.inl ⟨by rfl, ?_⟩) ?_ ?_
                        rotate_left
                        · intro w'
                          go_simp
                          with_reducible rfl
                        rotate_left
                        · simp only [Act.put, List.setIfInBounds_toArray, List.set_cons_zero, List.set_cons_succ, i64_w, i32_w]
                          rfl
                        refine pure_ (i := 15) (N := some 30) (v := ?_) (a' := ?_) #[true, true, true, true, true, true, true, true, true, true, true, true, false, true, true, true, false, false, false, false, false, false, false] rfl rfl (any_of HT_.out (by kernel_rfl)) (fun _ _ _ h => h) (Or.inl ⟨by rfl, ?_⟩) ?_ ?_
                        rotate_left
                        · intro w'
                          go_simp
                          with_reducible rfl
                        rotate_left
                        · simp only [Act.put, List.setIfInBounds_toArray, List.set_cons_zero, List.set_cons_succ, i64_w, i32_w]
                          rfl
                        refine take_ (i := 12) (N := some 27) (v := ?_) (a' := ?_) #[true, true, true, true, true, true, true, true, true, true, true, true, true, true, true, true, false, false, false, false, false, false, false] rfl rfl (take_ofW HT_.out HW_.out (by kernel_rfl)) (fun _ _ _ h => h) (Or.inl ⟨by rfl, ?_⟩) hHeld ?_ ?_
                        rotate_left
                        · rintro w' ⟨s0, s1⟩
                          go_simp
                          with_reducible rfl
                        rotate_left
                        · simp only [Act.put, List.setIfInBounds_toArray, List.set_cons_zero, List.set_cons_succ, i64_w, i32_w]
                          rfl
                        refine take_ (i := 16) (N := some 31) (v := ?_) (a' := ?_) #[true, true, true, true, true, true, true, true, true, true, true, true, true, true, true, true, true, false, false, false, false, false, false] rfl rfl (take_ofW HT_.out HW_.out (by kernel_rfl)) (fun _ _ _ h => h) (Or.inl ⟨by rfl, ?_⟩) hHeld ?_ ?_
                        rotate_left
                        · rintro w' ⟨s0, s1⟩
                          go_simp
                          with_reducible rfl
                        rotate_left
                        · simp only [Act.put, List.setIfInBounds_toArray, List.set_cons_zero, List.set_cons_succ, i64_w, i32_w]
                          rfl
                        refine pure_ (i := 17) (N := some 32) (v := ?_) (a' := ?_) #[true, true, true, true, true, true, true, true, true, true, true, true, true, true, true, true, true, true, false, false, false, false, false] rfl rfl (any_of HT_.out (by kernel_rfl)) (fun _ _ _ h => h) (Or.inl ⟨by rfl, ?_⟩) ?_ ?_
                        rotate_left
                        · intro w'
                          go_simp
                          with_reducible rfl
                        rotate_left
                        · simp only [Act.put, List.setIfInBounds_toArray, List.set_cons_zero, List.set_cons_succ, i64_w, i32_w]
                          rfl
                        refine pure_ (i := 18) (N := some 33) (v := ?_) (a' := ?_) #[true, true, true, true, true, true, true, true, true, true, true, true, true, true, true, true, true, true, true, false, false, false, false] rfl rfl (any_of HT_.out (by kernel_rfl)) (fun _ _ _ h => h) (Or.inl ⟨by rfl, ?_⟩) ?_ ?_
                        rotate_left
                        · intro w'
                          go_simp
                          with_reducible rfl
                        rotate_left
                        · simp only [Act.put, List.setIfInBounds_toArray, List.set_cons_zero, List.set_cons_succ, i64_w, i32_w]
                          rfl
                        refine pure_ (i := 19) (N := some 34) (v := ?_) (a' := ?_) #[true, true, true, true, true, true, true, true, true, true, true, true, true, true, true, true, true, true, true, true, false, false, false] rfl rfl (any_of HT_.out (by kernel_rfl)) (fun _ _ _ h => h) (Or.inl ⟨by rfl, ?_⟩) ?_ ?_
                        rotate_left
                        · intro w'
                          go_simp
                          with_reducible rfl
                        rotate_left
                        · simp only [Act.put, List.setIfInBounds_toArray, List.set_cons_zero, List.set_cons_succ, i64_w, i32_w]
                          rfl
                        refine pure_ (i := 20) (N := some 35) (v := undef) (a' := ?_) #[true, true, true, true, true, true, true, true, true, true, true, true, true, true, true, true, true, true, true, true, true, false, false] rfl rfl (any_of HT_.out (by kernel_rfl)) (fun _ _ _ h => h) (Or.inr ⟨by rfl, rfl⟩) ?_ ?_
                        rotate_left
                        · simp only [Act.put, List.setIfInBounds_toArray, List.set_cons_zero, List.set_cons_succ, i64_w, i32_w]
                          rfl
                        refine pure_ (i := 21) (N := some 36) (v := undef) (a' := ?_) #[true, true, true, true, true, true, true, true, true, true, true, true, true, true, true, true, true, true, true, true, true, true, false] rfl rfl (any_of HT_.out (by kernel_rfl)) (fun _ _ _ h => h) (Or.inr ⟨by rfl, rfl⟩) ?_ ?_
                        rotate_left
                        · simp only [Act.put, List.setIfInBounds_toArray, List.set_cons_zero, List.set_cons_succ, i64_w, i32_w]
                          rfl
                        refine pure_ (i := 22) (N := some 37) (v := ?_) (a' := ?_) #[true, true, true, true, true, true, true, true, true, true, true, true, true, true, true, true, true, true, true, true, true, true, true] rfl rfl (any_of HT_.out (by kernel_rfl)) (fun _ _ _ h => h) (Or.inl ⟨by rfl, ?_⟩) ?_ ?_
                        rotate_left
                        · intro w'
                          go_simp
                          with_reducible rfl
                        rotate_left
                        · simp only [Act.put, List.setIfInBounds_toArray, List.set_cons_zero, List.set_cons_succ, i64_w, i32_w]
                          rfl
                        refine done_ (done_of HT_.out (by kernel_rfl)) ?_
                        try go_wp2
                        go_meet
                        case rel => exact ⟨_, (x9_2), (by first | rfl | (simp; done) | (simp [*]; done)), H', ⟨by have := HK1.out; have := HK2.out; first | omega | exact Nat.le_refl _⟩, ⟨by (with_reducible repeat (first | apply Kd.R_alloc | apply Kd.R_drewN | apply Kd.R_drew)); exact HO_7.out⟩, ⟨by repeat (first | (with_reducible first | exact HB.out | apply below_alloc | apply pw_below_drewN | apply below_drew1) | exact HB.out)⟩⟩
                    · rw [if_neg c12] at H
                      exact absurd H (by simp)
                  · rw [if_neg c11] at H
                    exact absurd H (by simp)
                · rw [if_neg c10] at H
                  exact absurd H (by simp)
              · rw [if_neg c8] at H
                have c8b0 : decide ((wrap64 (x8_1 + x9_2)) < (l0.length : Int)) = false := decide_eq_false c8
                clear c8
                (first | rw [c8b0] | (simp only [i64_w, i32_w]; rw [c8b0]) | skip)
                have H' := Aside0.mk H
                clear H
                try go_wp2
                have n0_ := Aside0.mk (Kd.R_drew HO_7.out)
                have n1_ := Aside0.mk (below_drew1 HB.out)
                clear HO_7
                clear HB
                have HO_7 := n0_
                have HB := n1_
                clear n0_ n1_
                refine start_ (n := 23) (S := fun w' => True) (ds := []) #[false, false, false, false, false, false, false, false, false, false, false, false, false, false, false, false, false, false, false, false, false, false, false] (by kernel_rfl) rfl rfl trivial (fun hHeld => ?_); refine with_tabW spec_Run.tab5 spec_Run.bits5 (fun HT_ HW_ => ?_)
                generalize wr.drew = w18 at HO_7 HB hHeld ⊢
                refine pure_ (i := 0) (N := some 15) (v := ?_) (a' := ?_) #[true, false, false, false, false, false, false, false, false, false, false, false, false, false, false, false, false, false, false, false, false, false, false] rfl rfl (any_of HT_.out (by kernel_rfl)) (fun _ _ _ h => h) (Or.inl ⟨by rfl, ?_⟩) ?_ ?_
                rotate_left
                · intro w'
                  go_simp
                  with_reducible rfl
                rotate_left
                · simp only [Act.put, List.setIfInBounds_toArray, List.set_cons_zero, List.set_cons_succ, i64_w, i32_w]
                  rfl
                refine pure_ (i := 1) (N := some 16) (v := ?_) (a' := ?_) #[true, true, false, false, false, false, false, false, false, false, false, false, false, false, false, false, false, false, false, false, false, false, false] rfl rfl (any_of HT_.out (by kernel_rfl)) (fun _ _ _ h => h) (Or.inl ⟨by rfl, ?_⟩) ?_ ?_
                rotate_left
                · intro w'
                  go_simp
                  with_reducible rfl
                rotate_left
                · simp only [Act.put, List.setIfInBounds_toArray, List.set_cons_zero, List.set_cons_succ, i64_w, i32_w]
                  rfl
                refine pure_ (i := 2) (N := some 17) (v := ?_) (a' := ?_) #[true, true, true, false, false, false, false, false, false, false, false, false, false, false, false, false, false, false, false, false, false, false, false] rfl rfl (any_of HT_.out (by kernel_rfl)) (fun _ _ _ h => h) (Or.inl ⟨by rfl, ?_⟩) ?_ ?_
                rotate_left
                · intro w'
                  go_simp
                  with_reducible rfl
                rotate_left
                · simp only [Act.put, List.setIfInBounds_toArray, List.set_cons_zero, List.set_cons_succ, i64_w, i32_w]
                  rfl
                refine pure_ (i := 3) (N := some 18) (v := ?_) (a' := ?_) #[true, true, true, true, false, false, false, false, false, false, false, false, false, false, false, false, false, false, false, false, false, false, false] rfl rfl (any_of HT_.out (by kernel_rfl)) (fun _ _ _ h => h) (Or.inl ⟨by rfl, ?_⟩) ?_ ?_
                rotate_left
                · intro w'
                  go_simp
                  with_reducible rfl
                rotate_left
                · simp only [Act.put, List.setIfInBounds_toArray, List.set_cons_zero, List.set_cons_succ, i64_w, i32_w]
                  rfl
                refine pure_ (i := 4) (N := some 19) (v := ?_) (a' := ?_) #[true, true, true, true, true, false, false, false, false, false, false, false, false, false, false, false, false, false, false, false, false, false, false] rfl rfl (any_of HT_.out (by kernel_rfl)) (fun _ _ _ h => h) (Or.inl ⟨by rfl, ?_⟩) ?_ ?_
                rotate_left
                · intro w'
                  go_simp
                  with_reducible rfl
                rotate_left
                · simp only [Act.put, List.setIfInBounds_toArray, List.set_cons_zero, List.set_cons_succ, i64_w, i32_w]
                  rfl
                refine pure_ (i := 5) (N := some 20) (v := ?_) (a' := ?_) #[true, true, true, true, true, true, false, false, false, false, false, false, false, false, false, false, false, false, false, false, false, false, false] rfl rfl (any_of HT_.out (by kernel_rfl)) (fun _ _ _ h => h) (Or.inl ⟨by rfl, ?_⟩) ?_ ?_
                rotate_left
                · intro w'
                  go_simp
                  with_reducible rfl
                rotate_left
                · simp only [Act.put, List.setIfInBounds_toArray, List.set_cons_zero, List.set_cons_succ, i64_w, i32_w]
                  rfl
                refine pure_ (i := 6) (N := some 21) (v := ?_) (a' := ?_) #[true, true, true, true, true, true, true, false, false, false, false, false, false, false, false, false, false, false, false, false, false, false, false] rfl rfl (any_of HT_.out (by kernel_rfl)) (fun _ _ _ h => h) (Or.inl ⟨by rfl, ?_⟩) ?_ ?_
                rotate_left
                · intro w'
                  go_simp
                  with_reducible rfl
                rotate_left
                · simp only [Act.put, List.setIfInBounds_toArray, List.set_cons_zero, List.set_cons_succ, i64_w, i32_w]
                  rfl
                refine pure_ (i := 7) (N := some 22) (v := undef) (a' := ?_) #[true, true, true, true, true, true, true, true, false, false, false, false, false, false, false, false, false, false, false, false, false, false, false] rfl rfl (any_of HT_.out (by kernel_rfl)) (fun _ _ _ h => h) (Or.inr ⟨by rfl, rfl⟩) ?_ ?_
                rotate_left
                · simp only [Act.put, List.setIfInBounds_toArray, List.set_cons_zero, List.set_cons_succ, i64_w, i32_w]
                  rfl
                refine pure_ (i := 8) (N := some 23) (v := undef) (a' := ?_) #[true, true, true, true, true, true, true, true, true, false, false, false, false, false, false, false, false, false, false, false, false, false, false] rfl rfl (any_of HT_.out (by kernel_rfl)) (fun _ _ _ h => h) (Or.inr ⟨by rfl, rfl⟩) ?_ ?_
                rotate_left
                · simp only [Act.put, List.setIfInBounds_toArray, List.set_cons_zero, List.set_cons_succ, i64_w, i32_w]
                  rfl
                refine pure_ (i := 9) (N := some 24) (v := undef) (a' := ?_) #[true, true, true, true, true, true, true, true, true, true, false, false, false, false, false, false, false, false, false, false, false, false, false] rfl rfl (any_of HT_.out (by kernel_rfl)) (fun _ _ _ h => h) (Or.inr ⟨by rfl, rfl⟩) ?_ ?_
                rotate_left
                · simp only [Act.put, List.setIfInBounds_toArray, List.set_cons_zero, List.set_cons_succ, i64_w, i32_w]
                  rfl
                refine pure_ (i := 10) (N := some 25) (v := undef) (a' := ?_) #[true, true, true, true, true, true, true, true, true, true, true, false, false, false, false, false, false, false, false, false, false, false, false] rfl rfl (any_of HT_.out (by kernel_rfl)) (fun _ _ _ h => h) (Or.inr ⟨by rfl, rfl⟩) ?_ ?_
                rotate_left
                · simp only [Act.put, List.setIfInBounds_toArray, List.set_cons_zero, List.set_cons_succ, i64_w, i32_w]
                  rfl
                refine pure_ (i := 11) (N := some 26) (v := undef) (a' := ?_) #[true, true, true, true, true, true, true, true, true, true, true, true, false, false, false, false, false, false, false, false, false, false, false] rfl rfl (any_of HT_.out (by kernel_rfl)) (fun _ _ _ h => h) (Or.inr ⟨by rfl, rfl⟩) ?_ ?_
                rotate_left
                · simp only [Act.put, List.setIfInBounds_toArray, List.set_cons_zero, List.set_cons_succ, i64_w, i32_w]
                  rfl
                refine pure_ (i := 12) (N := some 27) (v := undef) (a' := ?_) #[true, true, true, true, true, true, true, true, true, true, true, true, true, false, false, false, false, false, false, false, false, false, false] rfl rfl (any_of HT_.out (by kernel_rfl)) (fun _ _ _ h => h) (Or.inr ⟨by rfl, rfl⟩) ?_ ?_
                rotate_left
                · simp only [Act.put, List.setIfInBounds_toArray, List.set_cons_zero, List.set_cons_succ, i64_w, i32_w]
                  rfl
                refine pure_ (i := 13) (N := some 28) (v := undef) (a' := ?_) #[true, true, true, true, true, true, true, true, true, true, true, true, true, true, false, false, false, false, false, false, false, false, false] rfl rfl (any_of HT_.out (by kernel_rfl)) (fun _ _ _ h => h) (Or.inr ⟨by rfl, rfl⟩) ?_ ?_
                rotate_left
                · simp only [Act.put, List.setIfInBounds_toArray, List.set_cons_zero, List.set_cons_succ, i64_w, i32_w]
                  rfl
                refine pure_ (i := 14) (N := some 29) (v := undef) (a' := ?_) #[true, true, true, true, true, true, true, true, true, true, true, true, true, true, true, false, false, false, false, false, false, false, false] rfl rfl (any_of HT_.out (by kernel_rfl)) (fun _ _ _ h => h) (Or.inr ⟨by rfl, rfl⟩) ?_ ?_
                rotate_left
                · simp only [Act.put, List.setIfInBounds_toArray, List.set_cons_zero, List.set_cons_succ, i64_w, i32_w]
                  rfl
                refine pure_ (i := 15) (N := some 30) (v := undef) (a' := ?_) #[true, true, true, true, true, true, true, true, true, true, true, true, true, true, true, true, false, false, false, false, false, false, false] rfl rfl (any_of HT_.out (by kernel_rfl)) (fun _ _ _ h => h) (Or.inr ⟨by rfl, rfl⟩) ?_ ?_
                rotate_left
                · simp only [Act.put, List.setIfInBounds_toArray, List.set_cons_zero, List.set_cons_succ, i64_w, i32_w]
                  rfl
                refine pure_ (i := 16) (N := some 31) (v := undef) (a' := ?_) #[true, true, true, true, true, true, true, true, true, true, true, true, true, true, true, true, true, false, false, false, false, false, false] rfl rfl (any_of HT_.out (by kernel_rfl)) (fun _ _ _ h => h) (Or.inr ⟨by rfl, rfl⟩) ?_ ?_
                rotate_left
                · simp only [Act.put, List.setIfInBounds_toArray, List.set_cons_zero, List.set_cons_succ, i64_w, i32_w]
                  rfl
                refine pure_ (i := 17) (N := some 32) (v := undef) (a' := ?_) #[true, true, true, true, true, true, true, true, true, true, true, true, true, true, true, true, true, true, false, false, false, false, false] rfl rfl (any_of HT_.out (by kernel_rfl)) (fun _ _ _ h => h) (Or.inr ⟨by rfl, rfl⟩) ?_ ?_
                rotate_left
                · simp only [Act.put, List.setIfInBounds_toArray, List.set_cons_zero, List.set_cons_succ, i64_w, i32_w]
                  rfl
                refine pure_ (i := 18) (N := some 33) (v := ?_) (a' := ?_) #[true, true, true, true, true, true, true, true, true, true, true, true, true, true, true, true, true, true, true, false, false, false, false] rfl rfl (any_of HT_.out (by kernel_rfl)) (fun _ _ _ h => h) (Or.inl ⟨by rfl, ?_⟩) ?_ ?_
                rotate_left
                · intro w'
                  go_simp
                  with_reducible rfl
                rotate_left
                · simp only [Act.put, List.setIfInBounds_toArray, List.set_cons_zero, List.set_cons_succ, i64_w, i32_w]
                  rfl
                refine pure_ (i := 19) (N := some 34) (v := ?_) (a' := ?_) #[true, true, true, true, true, true, true, true, true, true, true, true, true, true, true, true, true, true, true, true, false, false, false] rfl rfl (any_of HT_.out (by kernel_rfl)) (fun _ _ _ h => h) (Or.inl ⟨by rfl, ?_⟩) ?_ ?_
                rotate_left
                · intro w'
                  go_simp
                  with_reducible rfl
                rotate_left
                · simp only [Act.put, List.setIfInBounds_toArray, List.set_cons_zero, List.set_cons_succ, i64_w, i32_w]
                  rfl
                refine pure_ (i := 20) (N := some 35) (v := undef) (a' := ?_) #[true, true, true, true, true, true, true, true, true, true, true, true, true, true, true, true, true, true, true, true, true, false, false] rfl rfl (any_of HT_.out (by kernel_rfl)) (fun _ _ _ h => h) (Or.inr ⟨by rfl, rfl⟩) ?_ ?_
                rotate_left
                · simp only [Act.put, List.setIfInBounds_toArray, List.set_cons_zero, List.set_cons_succ, i64_w, i32_w]
                  rfl
                refine pure_ (i := 21) (N := some 36) (v := undef) (a' := ?_) #[true, true, true, true, true, true, true, true, true, true, true, true, true, true, true, true, true, true, true, true, true, true, false] rfl rfl (any_of HT_.out (by kernel_rfl)) (fun _ _ _ h => h) (Or.inr ⟨by rfl, rfl⟩) ?_ ?_
                rotate_left
                · simp only [Act.put, List.setIfInBounds_toArray, List.set_cons_zero, List.set_cons_succ, i64_w, i32_w]
                  rfl
                refine pure_ (i := 22) (N := some 37) (v := ?_) (a' := ?_) #[true, true, true, true, true, true, true, true, true, true, true, true, true, true, true, true, true, true, true, true, true, true, true] rfl rfl (any_of HT_.out (by kernel_rfl)) (fun _ _ _ h => h) (Or.inl ⟨by rfl, ?_⟩) ?_ ?_
                rotate_left
                · intro w'
                  go_simp
                  with_reducible rfl
                rotate_left
                · simp only [Act.put, List.setIfInBounds_toArray, List.set_cons_zero, List.set_cons_succ, i64_w, i32_w]
                  rfl
                refine done_ (done_of HT_.out (by kernel_rfl)) ?_
                try go_wp2
                go_meet
                case rel => exact ⟨_, (x9_2), (by first | rfl | (simp; done) | (simp [*]; done)), H', ⟨by have := HK1.out; have := HK2.out; first | omega | exact Nat.le_refl _⟩, ⟨by (with_reducible repeat (first | apply Kd.R_alloc | apply Kd.R_drewN | apply Kd.R_drew)); exact HO_7.out⟩, ⟨by repeat (first | (with_reducible first | exact HB.out | apply below_alloc | apply pw_below_drewN | apply below_drew1) | exact HB.out)⟩⟩
        case rest =>
          clear HC7
          try clear c1
          try clear p1
          try clear q1
          try clear hx1
          try clear p2
          try clear p6
          try clear c8
          try clear c8b0
          try clear c10
          try clear p10
          try clear q10
          try clear hx10
          try clear c11
          try clear p11
          try clear q11
          try clear hx11
          try clear c12
          try clear c13
          try clear c13b0
          try clear c13b1
          try clear c14
          try clear c14b0
          try clear hx109_0
          try clear hx110_0
          try clear p109
          try clear p110
          try clear q109
          try clear q110
          obtain ⟨kq, x9_6, rfl, HA, HJ6, HO_7, HB⟩ := hcut
          cases kq with
          | zero => exact absurd HA.out (by simp [spec_Run.j2])
          | succ kj6 =>
            have H := HA.out
            clear HA
            simp only [spec_Run.j2] at H
            by_cases c19 : (Go.bits .and .i64 a2 2) = 0
            · rw [if_pos c19] at H
              have c19b0 : ((Go.bits .and .i64 a2 2) == 0) = true := beq_iff_eq.mpr c19
              have c19b1 : ((Go.bits .and .i64 a2 2) != 0) = false := bne_eq_false_iff_eq.mpr c19
              clear c19
              by_cases c20 : x9_6 > 1
              · rw [if_pos c20] at H
                have c20b0 : decide (1 < x9_6) = true := decide_eq_true c20
                clear c20
                by_cases c21 : (Go.bits .and .i64 a2 1) = 0
                · rw [if_pos c21] at H
                  have c21b0 : ((Go.bits .and .i64 a2 1) == 0) = true := beq_iff_eq.mpr c21
                  have c21b1 : ((Go.bits .and .i64 a2 1) != 0) = false := bne_eq_false_iff_eq.mpr c21
                  clear c21
                  obtain ⟨ji22, hji22⟩ : ∃ j_ : Int, (mn a1 (wrap64 ((l0.length : Int) - x8_1))) = j_ := ⟨_, rfl⟩
                  replace H : (if x7_1.length < 140737488355328 then ((some (x7_1 ++ [(wrap64 ((ji22) - 1)) % 256] : List Int)).bind fun y111 => (if 0 ≤ x8_1 then (if x8_1 ≤ (wrap64 (x8_1 + (ji22))) then (if (wrap64 (x8_1 + (ji22))) ≤ (l0.length : Int) then (if y111.length + ((l0.take ((wrap64 (x8_1 + (ji22))) : Int).toNat).drop (x8_1 : Int).toNat).length < 140737488355328 then (spec_Run.l0 kj6 l0 a1 a2 (y111 ++ ((l0.take ((wrap64 (x8_1 + (ji22))) : Int).toNat).drop (x8_1 : Int).toNat)) (wrap64 (x8_1 + (ji22)))) else (none)) else (none)) else (none)) else (none))) else (none)) = some r := by first | (rw [hji22] at H; exact H) | (simp only [hji22] at H ⊢; exact H)
                  have hji22_ : (if (wrap64 ((l0.length : Int) - x8_1)) < a1 then (wrap64 ((l0.length : Int) - x8_1)) else a1) = ji22 := hji22
                  by_cases c23 : x7_1.length < 140737488355328
                  · rw [if_pos c23] at H
                    have LMc23 := Aside0.mk c23
                    clear c23
                    obtain ⟨y111, hy111⟩ : ∃ y_ : List Int, y_ = (x7_1 ++ [(wrap64 ((ji22) - 1)) % 256]) := ⟨_, rfl⟩
                    replace H : (if 0 ≤ x8_1 then (if x8_1 ≤ (wrap64 (x8_1 + (ji22))) then (if (wrap64 (x8_1 + (ji22))) ≤ (l0.length : Int) then (if y111.length + ((l0.take ((wrap64 (x8_1 + (ji22))) : Int).toNat).drop (x8_1 : Int).toNat).length < 140737488355328 then (spec_Run.l0 kj6 l0 a1 a2 (y111 ++ ((l0.take ((wrap64 (x8_1 + (ji22))) : Int).toNat).drop (x8_1 : Int).toNat)) (wrap64 (x8_1 + (ji22)))) else (none)) else (none)) else (none)) else (none)) = some r := by first | (rw [hy111]; with_reducible exact H) | (have H2_ := (Option.bind_some _ _).symm.trans H; rw [hy111]; with_reducible exact H2_) | (have H2_ := (Option.bind_some _ _).symm.trans H; with_reducible exact H2_) | with_reducible exact H | (rw [hy111]; exact H) | exact H
                    have Ny111 := Aside0.mk hy111
                    clear hy111
                    by_cases c24 : 0 ≤ x8_1
                    · rw [if_pos c24] at H
                      have c24b0 := eq_true c24
                      have c24b1 : decide (0 ≤ x8_1) = true := decide_eq_true c24
                      clear c24
                      by_cases c25 : x8_1 ≤ (wrap64 (x8_1 + (ji22)))
                      · rw [if_pos c25] at H
                        have c25b0 := eq_true c25
                        have c25b1 : decide (x8_1 ≤ (wrap64 (x8_1 + (ji22)))) = true := decide_eq_true c25
                        by_cases c26 : (wrap64 (x8_1 + (ji22))) ≤ (l0.length : Int)
                        · rw [if_pos c26] at H
                          have c26b0 := eq_true c26
                          have c26b1 : decide ((wrap64 (x8_1 + (ji22))) ≤ (l0.length : Int)) = true := decide_eq_true c26
                          by_cases c27 : y111.length + ((l0.take ((wrap64 (x8_1 + (ji22))) : Int).toNat).drop (x8_1 : Int).toNat).length < 140737488355328
                          · rw [if_pos c27] at H
                            have LMc27 := Aside0.mk c27
                            clear c27
                            obtain ⟨y115, hy115⟩ : ∃ y_ : List Int, y_ = (y111 ++ ((l0.take ((wrap64 (x8_1 + (ji22))) : Int).toNat).drop (x8_1 : Int).toNat)) := ⟨_, rfl⟩
                            replace H : (spec_Run.l0 kj6 l0 a1 a2 y115 (wrap64 (x8_1 + (ji22)))) = some r := by first | (rw [hy115]; with_reducible exact H) | (have H2_ := (Option.bind_some _ _).symm.trans H; rw [hy115]; with_reducible exact H2_) | (have H2_ := (Option.bind_some _ _).symm.trans H; with_reducible exact H2_) | with_reducible exact H | (rw [hy115]; exact H) | exact H
                            have Ny115 := Aside0.mk hy115
                            clear hy115
                            have H' := Aside0.mk H
                            clear H
                            try go_wp2
                            have n0_ := Aside0.mk (Kd.R_drew HO_7.out)
                            have n1_ := Aside0.mk (below_drew1 HB.out)
                            clear HO_7
                            clear HB
                            have HO_7 := n0_
                            have HB := n1_
                            clear n0_ n1_
                            obtain ⟨i029, hi029, _, hsz29, _⟩ := info_parts info5
                            obtain ⟨A29, hcut29, hA29, hC29⟩ := print_mid_of (P := Tryd.prog) (Value.int .u8) 0 22 5 .i64 .i64 Tryd.underlying22 hi029 hsz29 A0 c0 l0 x8_1 (wrap64 (x8_1 + (ji22))) (of_decide_eq_true (by first | (with_reducible assumption) | assumption)) (by first | omega | exact of_decide_eq_true (by first | (with_reducible assumption) | assumption)) (of_decide_eq_true (by first | (with_reducible assumption) | assumption)) HC0.out
                            have HR114 := Aside0.mk (Kd.C_of_reads (h1 := fun _ => rfl) (hA29 _ (Kd.reads_of_C HR0.out)))
                            have HC114 := Aside0.mk hC29
                            clear hA29 hC29 hi029 hsz29
                            refine start_ (n := 14) (S := fun w' => True) (ds := []) #[false, false, false, false, false, false, false, false, false, false, false, false, false, false] (by kernel_rfl) rfl rfl trivial (fun hHeld => ?_); refine with_tabW spec_Run.tab13 spec_Run.bits13 (fun HT_ HW_ => ?_)
                            generalize wc.drew = w28 at HO_7 HB HR114 hHeld ⊢
                            refine pure_ (i := 0) (N := some 72) (v := ?_) (a' := ?_) #[true, false, false, false, false, false, false, false, false, false, false, false, false, false] rfl rfl (any_of HT_.out (by kernel_rfl)) (fun _ _ _ h => h) (Or.inl ⟨by rfl, ?_⟩) ?_ ?_
                            rotate_left
                            · intro w'
                              go_simp
                              with_reducible rfl
                            rotate_left
                            · simp only [Act.put, List.setIfInBounds_toArray, List.set_cons_zero, List.set_cons_succ, i64_w, i32_w]
                              rfl
                            refine pure_ (i := 1) (N := some 73) (v := ?_) (a' := ?_) #[true, true, false, false, false, false, false, false, false, false, false, false, false, false] rfl rfl (any_of HT_.out (by kernel_rfl)) (fun _ _ _ h => h) (Or.inl ⟨by rfl, ?_⟩) ?_ ?_
                            rotate_left
                            · intro w'
                              go_simp
                              with_reducible rfl
                            rotate_left
                            · simp only [Act.put, List.setIfInBounds_toArray, List.set_cons_zero, List.set_cons_succ, i64_w, i32_w]
                              rfl
                            refine pure_ (i := 2) (N := some 74) (v := ?_) (a' := ?_) #[true, true, true, false, false, false, false, false, false, false, false, false, false, false] rfl rfl (any_of HT_.out (by kernel_rfl)) (fun _ _ _ h => h) (Or.inl ⟨by rfl, ?_⟩) ?_ ?_
                            rotate_left
                            · intro w'
                              go_simp
                              with_reducible rfl
                            rotate_left
                            · simp only [Act.put, List.setIfInBounds_toArray, List.set_cons_zero, List.set_cons_succ, i64_w, i32_w]
                              rfl
                            refine pure_ (i := 3) (N := some 75) (v := ?_) (a' := ?_) #[true, true, true, true, false, false, false, false, false, false, false, false, false, false] rfl rfl (any_of HT_.out (by kernel_rfl)) (fun _ _ _ h => h) (Or.inl ⟨by rfl, ?_⟩) ?_ ?_
                            rotate_left
                            · intro w'
                              go_simp
                              with_reducible rfl
                            rotate_left
                            · simp only [Act.put, List.setIfInBounds_toArray, List.set_cons_zero, List.set_cons_succ, i64_w, i32_w]
                              rfl
                            refine pure_ (i := 6) (N := some 78) (v := ?_) (a' := ?_) #[true, true, true, true, false, false, true, false, false, false, false, false, false, false] rfl rfl (any_of HT_.out (by kernel_rfl)) (fun _ _ _ h => h) (Or.inl ⟨by rfl, ?_⟩) ?_ ?_
                            rotate_left
                            · intro w'
                              go_simp
                              with_reducible rfl
                            rotate_left
                            · simp only [Act.put, List.setIfInBounds_toArray, List.set_cons_zero, List.set_cons_succ, i64_w, i32_w]
                              rfl
                            refine pure_ (i := 7) (N := some 79) (v := ?_) (a' := ?_) #[true, true, true, true, false, false, true, true, false, false, false, false, false, false] rfl rfl (any_of HT_.out (by kernel_rfl)) (fun _ _ _ h => h) (Or.inl ⟨by rfl, ?_⟩) ?_ ?_
                            rotate_left
                            · intro w'
                              go_simp
                              with_reducible rfl
                            rotate_left
                            · simp only [Act.put, List.setIfInBounds_toArray, List.set_cons_zero, List.set_cons_succ, i64_w, i32_w]
                              rfl
                            refine pure_ (i := 8) (N := some 80) (v := ?_) (a' := ?_) #[true, true, true, true, false, false, true, true, true, false, false, false, false, false] rfl rfl (any_of HT_.out (by kernel_rfl)) (fun _ _ _ h => h) (Or.inl ⟨by rfl, ?_⟩) ?_ ?_
                            rotate_left
                            · intro w'
                              go_simp
                              with_reducible rfl
                            rotate_left
                            · simp only [Act.put, List.setIfInBounds_toArray, List.set_cons_zero, List.set_cons_succ, i64_w, i32_w]
                              rfl
                            refine pure_ (i := 9) (N := some 81) (v := ?_) (a' := ?_) #[true, true, true, true, false, false, true, true, true, true, false, false, false, false] rfl rfl (any_of HT_.out (by kernel_rfl)) (fun _ _ _ h => h) (Or.inl ⟨by rfl, ?_⟩) ?_ ?_
                            rotate_left
                            · intro w'
                              go_simp
                              with_reducible rfl
                            rotate_left
                            · simp only [Act.put, List.setIfInBounds_toArray, List.set_cons_zero, List.set_cons_succ, i64_w, i32_w]
                              rfl
                            refine pure_ (i := 10) (N := some 82) (v := ?_) (a' := ?_) #[true, true, true, true, false, false, true, true, true, true, true, false, false, false] rfl rfl (any_of HT_.out (by kernel_rfl)) (fun _ _ _ h => h) (Or.inl ⟨by rfl, ?_⟩) ?_ ?_
                            rotate_left
                            · intro w'
                              go_simp
                              with_reducible rfl
                            rotate_left
                            · simp only [Act.put, List.setIfInBounds_toArray, List.set_cons_zero, List.set_cons_succ, i64_w, i32_w]
                              rfl
                            refine pure_ (i := 11) (N := some 83) (v := ?_) (a' := ?_) #[true, true, true, true, false, false, true, true, true, true, true, true, false, false] rfl rfl (any_of HT_.out (by kernel_rfl)) (fun _ _ _ h => h) (Or.inl ⟨by rfl, ?_⟩) ?_ ?_
                            rotate_left
                            · intro w'
                              go_simp
                              with_reducible rfl
                            rotate_left
                            · simp only [Act.put, List.setIfInBounds_toArray, List.set_cons_zero, List.set_cons_succ, i64_w, i32_w]
                              rfl
                            refine one_ (i := 4) (N := some 76) #[true, true, true, true, true, false, true, true, true, true, true, true, false, false] rfl rfl (one_of HT_.out (by kernel_rfl)) (by decide) (fun K hK => ?_)
                            refine value_ (w1 := ?_) (v := ?_) (by rfl) rfl ?_ ?_
                            rotate_left 2
                            · go_simp
                              constructor
                              · rfl
                              · rfl
                            refine hK.out _ _ trivial (fun hHeld => ?_)
                            clear hK K
                            refine norm_ (a' := ?_) ?_ ?_
                            rotate_left
                            · show Act.put _ (some 76) _ = _
                              simp only [Act.put, List.setIfInBounds_toArray, List.set_cons_zero, List.set_cons_succ, i64_w, i32_w]
                              rfl
                            refine one_ (i := 5) (N := some 77) #[true, true, true, true, true, true, true, true, true, true, true, true, false, false] rfl rfl (one_of HT_.out (by kernel_rfl)) (by decide) (fun K hK => ?_)
                            refine Kd.R_append_step (Kd.int .u8) (w0 := w) w.heap.size (by rfl) (.tmp 72) (.tmp 76) 22 5 (.int .u8 0) 1 rfl Tryd.underlying22 info5 rfl (by decide) (by omega) u7 x7_1 ((wrap64 ((ji22) - 1)) % 256) [.int .u8 ((wrap64 ((ji22) - 1)) % 256)] (fun _ => True) (fun _ => False) rfl rfl ?aP (fun _ hk => hk.elim) ?aF ?aO ?aB ?aS ?aL ?_
                            (case aP => exact rfl)
                            (case aB => exact (by repeat (first | (with_reducible first | exact HB.out | apply below_alloc | apply pw_below_drewN | apply below_drew1) | exact HB.out)))
                            (case aF => exact (fun _ _ => trivial))
                            (case aO => exact (by (with_reducible repeat (first | apply Kd.R_alloc | apply Kd.R_drewN | apply Kd.R_drew)); exact HO_7.out))
                            (case aS => exact (below_size (by repeat (first | (with_reducible first | exact HB.out | apply below_alloc | apply pw_below_drewN | apply below_drew1) | exact HB.out))))
                            (case aL => have := LMc23.out; omega)
                            intro v112 w30 ho hb hg hat
                            rw [← Ny111.out] at ho
                            have n0_ := Aside0.mk (hb)
                            have n1_ := Aside0.mk (ho)
                            clear HB
                            clear HO_7
                            have HB := n0_
                            have HO113 := n1_
                            clear n0_ n1_
                            clear ho hb hg hat
                            refine hK.out _ _ trivial (fun hHeld => ?_)
                            clear hK K
                            refine norm_ (a' := ?_) ?_ ?_
                            rotate_left
                            · show Act.put _ (some 77) _ = _
                              simp only [Act.put, List.setIfInBounds_toArray, List.set_cons_zero, List.set_cons_succ, i64_w, i32_w]
                              rfl
                            refine one_ (i := 12) (N := some 84) #[true, true, true, true, true, true, true, true, true, true, true, true, true, false] rfl rfl (one_of HT_.out (by kernel_rfl)) (by decide) (fun K hK => ?_)
                            refine Kd.R_append_rows_step (Kd.int .u8) (w0 := w) w.heap.size (by rfl) (.tmp 77) (.tmp 83) 22 5 (.int .u8 0) 1 rfl Tryd.underlying22 info5 rfl (by decide) (by omega) v112 y111 ((l0.take ((wrap64 (x8_1 + (ji22))) : Int).toNat).drop (x8_1 : Int).toNat) _ _ _ (fun _ => True) (fun _ => False) rfl rfl ?aO ?aR (fun _ _ h => h) (fun _ h => h.elim) ?aF ?aB ?aS ?aL ?_
                            (case aR => first | (rw [← show ((l0.take ((wrap64 (x8_1 + (ji22))) : Int).toNat).drop (x8_1 : Int).toNat).length = ((wrap64 (x8_1 + (ji22))).toNat - x8_1.toNat) from (by rw [List.length_drop, List.length_take]; have h_ : ((wrap64 (x8_1 + (ji22))) : Int) ≤ (l0.length : Int) := of_decide_eq_true (by first | (with_reducible assumption) | assumption); omega)]; repeat (first | exact (Kd.C_below HR114.out HB.out) | (with_reducible refine Kd.C_alloc ?_ _) | (with_reducible refine Kd.C_drewN ?_ _) | (with_reducible refine Kd.C_drew ?_))) | (repeat (first | exact (Kd.C_below HR114.out HB.out) | (with_reducible refine Kd.C_alloc ?_ _) | (with_reducible refine Kd.C_drewN ?_ _) | (with_reducible refine Kd.C_drew ?_))))
                            (case aB => exact (by repeat (first | (with_reducible first | exact HB.out | apply below_alloc | apply pw_below_drewN | apply below_drew1) | exact HB.out)))
                            (case aF => exact (fun _ _ => trivial))
                            (case aO => exact (by (with_reducible repeat (first | apply Kd.R_alloc | apply Kd.R_drewN | apply Kd.R_drew)); exact HO113.out))
                            (case aS => exact (below_size (by repeat (first | (with_reducible first | exact HB.out | apply below_alloc | apply pw_below_drewN | apply below_drew1) | exact HB.out))))
                            (case aL => have := LMc27.out; have hlx_ := (show ((l0.take ((wrap64 (x8_1 + (ji22))) : Int).toNat).drop (x8_1 : Int).toNat).length = ((wrap64 (x8_1 + (ji22))).toNat - x8_1.toNat) from (by rw [List.length_drop, List.length_take]; have h_ : ((wrap64 (x8_1 + (ji22))) : Int) ≤ (l0.length : Int) := of_decide_eq_true (by first | (with_reducible assumption) | assumption); omega)); omega)
                            intro v116 w31 ho hb hg hat
                            rw [← Ny115.out] at ho
                            have n0_ := Aside0.mk (hb)
                            have n1_ := Aside0.mk (ho)
                            clear HB
                            clear HO113
                            have HB := n0_
                            have HO117 := n1_
                            clear n0_ n1_
                            clear ho hb hg hat
                            refine hK.out _ _ trivial (fun hHeld => ?_)
                            clear hK K
                            refine norm_ (a' := ?_) ?_ ?_
                            rotate_left
                            · show Act.put _ (some 84) _ = _
                              simp only [Act.put, List.setIfInBounds_toArray, List.set_cons_zero, List.set_cons_succ, i64_w, i32_w]
                              rfl
                            refine pure_ (i := 13) (N := some 7) (v := ?_) (a' := ?_) #[true, true, true, true, true, true, true, true, true, true, true, true, true, true] rfl rfl (any_of HT_.out (by kernel_rfl)) (fun _ _ _ h => h) (Or.inl ⟨by rfl, ?_⟩) ?_ ?_
                            rotate_left
                            · intro w'
                              go_simp
                              with_reducible rfl
                            rotate_left
                            · simp only [Act.put, List.setIfInBounds_toArray, List.set_cons_zero, List.set_cons_succ, i64_w, i32_w]
                              rfl
                            refine done_ (done_of HT_.out (by kernel_rfl)) ?_
                            try go_wp2
                            go_roundg kj6
                            case measure => have := HK1.out; have := HJ6.out; omega
                            case rel => exact ⟨(y115), (wrap64 (x8_1 + (ji22))), (by first | rfl | (simp; done) | (simp only [← hji22] <;> (first | rfl | simp)) | (simp [*]; done)), H', ⟨by have := HK1.out; have := HJ6.out; omega⟩, ⟨by (with_reducible repeat (first | apply Kd.R_alloc | apply Kd.R_drewN | apply Kd.R_drew)); exact HO117.out⟩, ⟨by repeat (first | (with_reducible first | exact HB.out | apply below_alloc | apply pw_below_drewN | apply below_drew1) | exact HB.out)⟩⟩
                          · rw [if_neg c27] at H
                            exact absurd H (by simp)
                        · rw [if_neg c26] at H
                          exact absurd H (by simp)
                      · rw [if_neg c25] at H
                        exact absurd H (by simp)
                    · rw [if_neg c24] at H
                      exact absurd H (by simp)
                  · rw [if_neg c23] at H
                    exact absurd H (by simp)
                · rw [if_neg c21] at H
                  have c21b0 : ((Go.bits .and .i64 a2 1) == 0) = false := beq_eq_false_iff_ne.mpr c21
                  have c21b1 : ((Go.bits .and .i64 a2 1) != 0) = true := bne_iff_ne.mpr c21
                  by_cases c32 : 0 ≤ x8_1
                  · rw [if_pos c32] at H
                    have c32b0 : decide (0 ≤ x8_1) = true := decide_eq_true c32
                    clear c32
                    by_cases c33 : x8_1 < (l0.length : Int)
                    · rw [if_pos c33] at H
                      have c33b0 : decide (x8_1 < (l0.length : Int)) = true := decide_eq_true c33
                      clear c33
                      obtain ⟨y119, hy119⟩ : ∃ y_ : List Int, y_ = (([(wrap64 (257 - x9_6)) % 256, rd l0 x8_1] : List Int)) := ⟨_, rfl⟩
                      replace H : (if x7_1.length + y119.length < 140737488355328 then (spec_Run.l0 kj6 l0 a1 a2 (x7_1 ++ y119) (wrap64 (x8_1 + x9_6))) else (none)) = some r := by first | (rw [hy119]; with_reducible exact H) | (have H2_ := (Option.bind_some _ _).symm.trans H; rw [hy119]; with_reducible exact H2_) | (have H2_ := (Option.bind_some _ _).symm.trans H; with_reducible exact H2_) | with_reducible exact H | (rw [hy119]; exact H) | exact H
                      have Ny119 := Aside0.mk hy119
                      clear hy119
                      by_cases c34 : x7_1.length + y119.length < 140737488355328
                      · rw [if_pos c34] at H
                        have LMc34 := Aside0.mk c34
                        clear c34
                        obtain ⟨y122, hy122⟩ : ∃ y_ : List Int, y_ = (x7_1 ++ y119) := ⟨_, rfl⟩
                        replace H : (spec_Run.l0 kj6 l0 a1 a2 y122 (wrap64 (x8_1 + x9_6))) = some r := by first | (rw [hy122]; with_reducible exact H) | (have H2_ := (Option.bind_some _ _).symm.trans H; rw [hy122]; with_reducible exact H2_) | (have H2_ := (Option.bind_some _ _).symm.trans H; with_reducible exact H2_) | with_reducible exact H | (rw [hy122]; exact H) | exact H
                        have Ny122 := Aside0.mk hy122
                        clear hy122
                        have H' := Aside0.mk H
                        clear H
                        have p118 : 0 ≤ (x8_1 : Int) := of_decide_eq_true (by first | (with_reducible assumption) | assumption)
                        have q118 : x8_1 < (l0.length : Int) := of_decide_eq_true (by first | (with_reducible assumption) | assumption)
                        obtain ⟨ad118, e118, hx118_0⟩ := Kd.at_int HR0.out x8_1 p118 q118
                        cases e118
                        replace hx118_0 := (HB.out.cell (World.block_lt_of_cell? w _ hx118_0)).trans hx118_0
                        replace p118 := eq_true p118
                        replace q118 := eq_true q118
                        go_wp2_with (first | ((with_reducible refine gate_dst (N := 61) rfl ?_); refine Kd.R_lit (Kd.int .u8) _ 5 ?hg (N := 61) ?hd (xs := ([(wrap64 (257 - x9_6)) % 256, rd l0 x8_1] : List Int)) (inner := [.int .u8 ((wrap64 (257 - x9_6)) % 256), .int .u8 (rd l0 x8_1)]) (ok := fun _ => True) (okp := fun _ => True) ?hr ?hp (fun _ hk => hk) trivial (Below.refl _ _) (Nat.le_refl _) (by simp) ?_; (case hd => rfl); (case hg => rfl); (case hr => first | (go_simp; done) | (go_simp; rfl)); (case hp => exact (Reps.one (show Kd.M (Kd.int .u8) _ _ _ ((wrap64 (257 - x9_6)) % 256) [.int .u8 ((wrap64 (257 - x9_6)) % 256)] from rfl) (Reps.one (show Kd.M (Kd.int .u8) _ _ _ (rd l0 x8_1) [.int .u8 (rd l0 x8_1)] from rfl) (Reps.none _ _)))); intro v120 w35 ho36 hb hg_ hnew_; clear hg_ hnew_; (first | rw [← Ny119.out] at ho36 | (simp only [Int.reduceToNat] at ho36; rw [← Ny119.out] at ho36)); have n0_ := Aside0.mk (Kd.R_elder' (by (with_reducible repeat (first | apply Kd.R_alloc | apply Kd.R_drewN | apply Kd.R_drew)); exact HO_7.out) (Kd.R_base ho36) hb); have n1_ := Aside0.mk (Kd.R_lower (Kd.R_new' ho36 (Kd.R_lt (by (with_reducible repeat (first | apply Kd.R_alloc | apply Kd.R_drewN | apply Kd.R_drew)); exact HO_7.out))) (below_size (by repeat (first | (with_reducible first | exact HB.out | apply below_alloc | apply pw_below_drewN | apply below_drew1) | exact HB.out)))); have n2_ := Aside0.mk (below_step (by repeat (first | (with_reducible first | exact HB.out | apply below_alloc | apply pw_below_drewN | apply below_drew1) | exact HB.out)) hb); clear HO_7; clear HB; have HO_7 := n0_; have HO121 := n1_; have HB := n2_; clear n0_ n1_ n2_; clear hb ho36; obtain ⟨Ao38, co38, eo38⟩ := Kd.R_slice HO121.out; subst eo38) | ((with_reducible refine gate_builtin (b := .append) (xs := #[.tmp 53, .tmp 61]) rfl ?_); at_builtin; refine Kd.R_append_rows (Kd.int .u8) (w0 := w) w.heap.size rfl (.tmp 53) (.tmp 61) 22 5 (.int .u8 0) 1 rfl Tryd.underlying22 info5 rfl (by decide) (by omega) u7 x7_1 y119 _ _ _ (fun k_ => some k_ ≠ (.slice Ao38 y119.length co38 : Value).ownBlock) (fun _ => False) rfl rfl ?aO ?aR (fun _ _ h => h) (fun _ h => h.elim) ?aF ?aB ?aS ?aL ?_; (case aR => repeat (first | exact (Kd.R_reads' HO121.out).2.2 | (with_reducible refine Kd.C_alloc ?_ _) | (with_reducible refine Kd.C_drewN ?_ _) | (with_reducible refine Kd.C_drew ?_))); (case aB => exact (by repeat (first | (with_reducible first | exact HB.out | apply below_alloc | apply pw_below_drewN | apply below_drew1) | exact HB.out))); (case aF => exact (fun k_ hk => Kd.fresh' (Kd.R_lt (by (with_reducible repeat (first | apply Kd.R_alloc | apply Kd.R_drewN | apply Kd.R_drew)); exact HO121.out)) k_ hk)); (case aO => exact (by (with_reducible repeat (first | apply Kd.R_alloc | apply Kd.R_drewN | apply Kd.R_drew)); exact Kd.R_mono HO_7.out (fun _ hk => hk.2))); (case aS => exact (below_size (by repeat (first | (with_reducible first | exact HB.out | apply below_alloc | apply pw_below_drewN | apply below_drew1) | exact HB.out)))); (case aL => have := LMc34.out; omega); intro v123 w37 ho hb hg hat; rw [← Ny122.out] at ho; have n0_ := Aside0.mk (Kd.R_after (ok := (fun _ => True)) (by (with_reducible repeat (first | apply Kd.R_alloc | apply Kd.R_drewN | apply Kd.R_drew)); exact HO121.out) hg hat); have n1_ := Aside0.mk (hb); have n2_ := Aside0.mk (ho); clear HO121; clear HB; clear HO_7; have HO121 := n0_; have HB := n1_; have HO124 := n2_; clear n0_ n1_ n2_; clear ho hb hg hat))
                        go_roundg kj6
                        case measure => have := HK1.out; have := HJ6.out; omega
                        case rel => exact ⟨(y122), (wrap64 (x8_1 + x9_6)), (by first | rfl | (simp; done) | (simp [*]; done)), H', ⟨by have := HK1.out; have := HJ6.out; omega⟩, ⟨by (with_reducible repeat (first | apply Kd.R_alloc | apply Kd.R_drewN | apply Kd.R_drew)); exact Kd.R_mono HO124.out (fun _ hk => trivial)⟩, ⟨by repeat (first | (with_reducible first | exact HB.out | apply below_alloc | apply pw_below_drewN | apply below_drew1) | exact HB.out)⟩⟩
                      · rw [if_neg c34] at H
                        exact absurd H (by simp)
                    · rw [if_neg c33] at H
                      exact absurd H (by simp)
                  · rw [if_neg c32] at H
                    exact absurd H (by simp)
              · rw [if_neg c20] at H
                have c20b0 : decide (1 < x9_6) = false := decide_eq_false c20
                clear c20
                obtain ⟨ji39, hji39⟩ : ∃ j_ : Int, (mn a1 (wrap64 ((l0.length : Int) - x8_1))) = j_ := ⟨_, rfl⟩
                replace H : (if x7_1.length < 140737488355328 then ((some (x7_1 ++ [(wrap64 ((ji39) - 1)) % 256] : List Int)).bind fun y125 => (if 0 ≤ x8_1 then (if x8_1 ≤ (wrap64 (x8_1 + (ji39))) then (if (wrap64 (x8_1 + (ji39))) ≤ (l0.length : Int) then (if y125.length + ((l0.take ((wrap64 (x8_1 + (ji39))) : Int).toNat).drop (x8_1 : Int).toNat).length < 140737488355328 then (spec_Run.l0 kj6 l0 a1 a2 (y125 ++ ((l0.take ((wrap64 (x8_1 + (ji39))) : Int).toNat).drop (x8_1 : Int).toNat)) (wrap64 (x8_1 + (ji39)))) else (none)) else (none)) else (none)) else (none))) else (none)) = some r := by first | (rw [hji39] at H; exact H) | (simp only [hji39] at H ⊢; exact H)
                have hji39_ : (if (wrap64 ((l0.length : Int) - x8_1)) < a1 then (wrap64 ((l0.length : Int) - x8_1)) else a1) = ji39 := hji39
                by_cases c40 : x7_1.length < 140737488355328
                · rw [if_pos c40] at H
                  have LMc40 := Aside0.mk c40
                  clear c40
                  obtain ⟨y125, hy125⟩ : ∃ y_ : List Int, y_ = (x7_1 ++ [(wrap64 ((ji39) - 1)) % 256]) := ⟨_, rfl⟩
                  replace H : (if 0 ≤ x8_1 then (if x8_1 ≤ (wrap64 (x8_1 + (ji39))) then (if (wrap64 (x8_1 + (ji39))) ≤ (l0.length : Int) then (if y125.length + ((l0.take ((wrap64 (x8_1 + (ji39))) : Int).toNat).drop (x8_1 : Int).toNat).length < 140737488355328 then (spec_Run.l0 kj6 l0 a1 a2 (y125 ++ ((l0.take ((wrap64 (x8_1 + (ji39))) : Int).toNat).drop (x8_1 : Int).toNat)) (wrap64 (x8_1 + (ji39)))) else (none)) else (none)) else (none)) else (none)) = some r := by first | (rw [hy125]; with_reducible exact H) | (have H2_ := (Option.bind_some _ _).symm.trans H; rw [hy125]; with_reducible exact H2_) | (have H2_ := (Option.bind_some _ _).symm.trans H; with_reducible exact H2_) | with_reducible exact H | (rw [hy125]; exact H) | exact H
                  have Ny125 := Aside0.mk hy125
                  clear hy125
                  by_cases c41 : 0 ≤ x8_1
                  · rw [if_pos c41] at H
                    have c41b0 := eq_true c41
                    have c41b1 : decide (0 ≤ x8_1) = true := decide_eq_true c41
                    clear c41
                    by_cases c42 : x8_1 ≤ (wrap64 (x8_1 + (ji39)))
                    · rw [if_pos c42] at H
                      have c42b0 := eq_true c42
                      have c42b1 : decide (x8_1 ≤ (wrap64 (x8_1 + (ji39)))) = true := decide_eq_true c42
                      by_cases c43 : (wrap64 (x8_1 + (ji39))) ≤ (l0.length : Int)
                      · rw [if_pos c43] at H
                        have c43b0 := eq_true c43
                        have c43b1 : decide ((wrap64 (x8_1 + (ji39))) ≤ (l0.length : Int)) = true := decide_eq_true c43
                        by_cases c44 : y125.length + ((l0.take ((wrap64 (x8_1 + (ji39))) : Int).toNat).drop (x8_1 : Int).toNat).length < 140737488355328
                        · rw [if_pos c44] at H
                          have LMc44 := Aside0.mk c44
                          clear c44
                          obtain ⟨y129, hy129⟩ : ∃ y_ : List Int, y_ = (y125 ++ ((l0.take ((wrap64 (x8_1 + (ji39))) : Int).toNat).drop (x8_1 : Int).toNat)) := ⟨_, rfl⟩
                          replace H : (spec_Run.l0 kj6 l0 a1 a2 y129 (wrap64 (x8_1 + (ji39)))) = some r := by first | (rw [hy129]; with_reducible exact H) | (have H2_ := (Option.bind_some _ _).symm.trans H; rw [hy129]; with_reducible exact H2_) | (have H2_ := (Option.bind_some _ _).symm.trans H; with_reducible exact H2_) | with_reducible exact H | (rw [hy129]; exact H) | exact H
                          have Ny129 := Aside0.mk hy129
                          clear hy129
                          have H' := Aside0.mk H
                          clear H
                          try go_wp2
                          have n0_ := Aside0.mk (Kd.R_drew HO_7.out)
                          have n1_ := Aside0.mk (below_drew1 HB.out)
                          clear HO_7
                          clear HB
                          have HO_7 := n0_
                          have HB := n1_
                          clear n0_ n1_
                          obtain ⟨i046, hi046, _, hsz46, _⟩ := info_parts info5
                          obtain ⟨A46, hcut46, hA46, hC46⟩ := print_mid_of (P := Tryd.prog) (Value.int .u8) 0 22 5 .i64 .i64 Tryd.underlying22 hi046 hsz46 A0 c0 l0 x8_1 (wrap64 (x8_1 + (ji39))) (of_decide_eq_true (by first | (with_reducible assumption) | assumption)) (by first | omega | exact of_decide_eq_true (by first | (with_reducible assumption) | assumption)) (of_decide_eq_true (by first | (with_reducible assumption) | assumption)) HC0.out
                          have HR128 := Aside0.mk (Kd.C_of_reads (h1 := fun _ => rfl) (hA46 _ (Kd.reads_of_C HR0.out)))
                          have HC128 := Aside0.mk hC46
                          clear hA46 hC46 hi046 hsz46
                          refine start_ (n := 14) (S := fun w' => True) (ds := []) #[false, false, false, false, false, false, false, false, false, false, false, false, false, false] (by kernel_rfl) rfl rfl trivial (fun hHeld => ?_); refine with_tabW spec_Run.tab13 spec_Run.bits13 (fun HT_ HW_ => ?_)
                          generalize wc.drew = w45 at HO_7 HB HR128 hHeld ⊢
                          refine pure_ (i := 0) (N := some 72) (v := ?_) (a' := ?_) #[true, false, false, false, false, false, false, false, false, false, false, false, false, false] rfl rfl (any_of HT_.out (by kernel_rfl)) (fun _ _ _ h => h) (Or.inl ⟨by rfl, ?_⟩) ?_ ?_
                          rotate_left
                          · intro w'
                            go_simp
                            with_reducible rfl
                          rotate_left
                          · simp only [Act.put, List.setIfInBounds_toArray, List.set_cons_zero, List.set_cons_succ, i64_w, i32_w]
                            rfl
                          refine pure_ (i := 1) (N := some 73) (v := ?_) (a' := ?_) #[true, true, false, false, false, false, false, false, false, false, false, false, false, false] rfl rfl (any_of HT_.out (by kernel_rfl)) (fun _ _ _ h => h) (Or.inl ⟨by rfl, ?_⟩) ?_ ?_
                          rotate_left
                          · intro w'
                            go_simp
                            with_reducible rfl
                          rotate_left
                          · simp only [Act.put, List.setIfInBounds_toArray, List.set_cons_zero, List.set_cons_succ, i64_w, i32_w]
                            rfl
                          refine pure_ (i := 2) (N := some 74) (v := ?_) (a' := ?_) #[true, true, true, false, false, false, false, false, false, false, false, false, false, false] rfl rfl (any_of HT_.out (by kernel_rfl)) (fun _ _ _ h => h) (Or.inl ⟨by rfl, ?_⟩) ?_ ?_
                          rotate_left
                          · intro w'
                            go_simp
                            with_reducible rfl
                          rotate_left
                          · simp only [Act.put, List.setIfInBounds_toArray, List.set_cons_zero, List.set_cons_succ, i64_w, i32_w]
                            rfl
                          refine pure_ (i := 3) (N := some 75) (v := ?_) (a' := ?_) #[true, true, true, true, false, false, false, false, false, false, false, false, false, false] rfl rfl (any_of HT_.out (by kernel_rfl)) (fun _ _ _ h => h) (Or.inl ⟨by rfl, ?_⟩) ?_ ?_
                          rotate_left
                          · intro w'
                            go_simp
                            with_reducible rfl
                          rotate_left
                          · simp only [Act.put, List.setIfInBounds_toArray, List.set_cons_zero, List.set_cons_succ, i64_w, i32_w]
                            rfl
                          refine pure_ (i := 6) (N := some 78) (v := ?_) (a' := ?_) #[true, true, true, true, false, false, true, false, false, false, false, false, false, false] rfl rfl (any_of HT_.out (by kernel_rfl)) (fun _ _ _ h => h) (Or.inl ⟨by rfl, ?_⟩) ?_ ?_
                          rotate_left
                          · intro w'
                            go_simp
                            with_reducible rfl
                          rotate_left
                          · simp only [Act.put, List.setIfInBounds_toArray, List.set_cons_zero, List.set_cons_succ, i64_w, i32_w]
                            rfl
                          refine pure_ (i := 7) (N := some 79) (v := ?_) (a' := ?_) #[true, true, true, true, false, false, true, true, false, false, false, false, false, false] rfl rfl (any_of HT_.out (by kernel_rfl)) (fun _ _ _ h => h) (Or.inl ⟨by rfl, ?_⟩) ?_ ?_
                          rotate_left
                          · intro w'
                            go_simp
                            with_reducible rfl
                          rotate_left
                          · simp only [Act.put, List.setIfInBounds_toArray, List.set_cons_zero, List.set_cons_succ, i64_w, i32_w]
                            rfl
                          refine pure_ (i := 8) (N := some 80) (v := ?_) (a' := ?_) #[true, true, true, true, false, false, true, true, true, false, false, false, false, false] rfl rfl (any_of HT_.out (by kernel_rfl)) (fun _ _ _ h => h) (Or.inl ⟨by rfl, ?_⟩) ?_ ?_
                          rotate_left
                          · intro w'
                            go_simp
                            with_reducible rfl
                          rotate_left
                          · simp only [Act.put, List.setIfInBounds_toArray, List.set_cons_zero, List.set_cons_succ, i64_w, i32_w]
                            rfl
                          refine pure_ (i := 9) (N := some 81) (v := ?_) (a' := ?_) #[true, true, true, true, false, false, true, true, true, true, false, false, false, false] rfl rfl (any_of HT_.out (by kernel_rfl)) (fun _ _ _ h => h) (Or.inl ⟨by rfl, ?_⟩) ?_ ?_
                          rotate_left
                          · intro w'
                            go_simp
                            with_reducible rfl
                          rotate_left
                          · simp only [Act.put, List.setIfInBounds_toArray, List.set_cons_zero, List.set_cons_succ, i64_w, i32_w]
                            rfl
                          refine pure_ (i := 10) (N := some 82) (v := ?_) (a' := ?_) #[true, true, true, true, false, false, true, true, true, true, true, false, false, false] rfl rfl (any_of HT_.out (by kernel_rfl)) (fun _ _ _ h => h) (Or.inl ⟨by rfl, ?_⟩) ?_ ?_
                          rotate_left
                          · intro w'
                            go_simp
                            with_reducible rfl
                          rotate_left
                          · simp only [Act.put, List.setIfInBounds_toArray, List.set_cons_zero, List.set_cons_succ, i64_w, i32_w]
                            rfl
                          refine pure_ (i := 11) (N := some 83) (v := ?_) (a' := ?_) #[true, true, true, true, false, false, true, true, true, true, true, true, false, false] rfl rfl (any_of HT_.out (by kernel_rfl)) (fun _ _ _ h => h) (Or.inl ⟨by rfl, ?_⟩) ?_ ?_
                          rotate_left
                          · intro w'
                            go_simp
                            with_reducible rfl
                          rotate_left
                          · simp only [Act.put, List.setIfInBounds_toArray, List.set_cons_zero, List.set_cons_succ, i64_w, i32_w]
                            rfl
                          refine one_ (i := 4) (N := some 76) #[true, true, true, true, true, false, true, true, true, true, true, true, false, false] rfl rfl (one_of HT_.out (by kernel_rfl)) (by decide) (fun K hK => ?_)
                          refine value_ (w1 := ?_) (v := ?_) (by rfl) rfl ?_ ?_
                          rotate_left 2
                          · go_simp
                            constructor
                            · rfl
                            · rfl
                          refine hK.out _ _ trivial (fun hHeld => ?_)
                          clear hK K
                          refine norm_ (a' := ?_) ?_ ?_
                          rotate_left
                          · show Act.put _ (some 76) _ = _
                            simp only [Act.put, List.setIfInBounds_toArray, List.set_cons_zero, List.set_cons_succ, i64_w, i32_w]
                            rfl
                          refine one_ (i := 5) (N := some 77) #[true, true, true, true, true, true, true, true, true, true, true, true, false, false] rfl rfl (one_of HT_.out (by kernel_rfl)) (by decide) (fun K hK => ?_)
                          refine Kd.R_append_step (Kd.int .u8) (w0 := w) w.heap.size (by rfl) (.tmp 72) (.tmp 76) 22 5 (.int .u8 0) 1 rfl Tryd.underlying22 info5 rfl (by decide) (by omega) u7 x7_1 ((wrap64 ((ji39) - 1)) % 256) [.int .u8 ((wrap64 ((ji39) - 1)) % 256)] (fun _ => True) (fun _ => False) rfl rfl ?aP (fun _ hk => hk.elim) ?aF ?aO ?aB ?aS ?aL ?_
                          (case aP => exact rfl)
                          (case aB => exact (by repeat (first | (with_reducible first | exact HB.out | apply below_alloc | apply pw_below_drewN | apply below_drew1) | exact HB.out)))
                          (case aF => exact (fun _ _ => trivial))
                          (case aO => exact (by (with_reducible repeat (first | apply Kd.R_alloc | apply Kd.R_drewN | apply Kd.R_drew)); exact HO_7.out))
                          (case aS => exact (below_size (by repeat (first | (with_reducible first | exact HB.out | apply below_alloc | apply pw_below_drewN | apply below_drew1) | exact HB.out))))
                          (case aL => have := LMc40.out; omega)
                          intro v126 w47 ho hb hg hat
                          rw [← Ny125.out] at ho
                          have n0_ := Aside0.mk (hb)
                          have n1_ := Aside0.mk (ho)
                          clear HB
                          clear HO_7
                          have HB := n0_
                          have HO127 := n1_
                          clear n0_ n1_
                          clear ho hb hg hat
                          refine hK.out _ _ trivial (fun hHeld => ?_)
                          clear hK K
                          refine norm_ (a' := ?_) ?_ ?_
                          rotate_left
                          · show Act.put _ (some 77) _ = _
                            simp only [Act.put, List.setIfInBounds_toArray, List.set_cons_zero, List.set_cons_succ, i64_w, i32_w]
                            rfl
                          refine one_ (i := 12) (N := some 84) #[true, true, true, true, true, true, true, true, true, true, true, true, true, false] rfl rfl (one_of HT_.out (by kernel_rfl)) (by decide) (fun K hK => ?_)
                          refine Kd.R_append_rows_step (Kd.int .u8) (w0 := w) w.heap.size (by rfl) (.tmp 77) (.tmp 83) 22 5 (.int .u8 0) 1 rfl Tryd.underlying22 info5 rfl (by decide) (by omega) v126 y125 ((l0.take ((wrap64 (x8_1 + (ji39))) : Int).toNat).drop (x8_1 : Int).toNat) _ _ _ (fun _ => True) (fun _ => False) rfl rfl ?aO ?aR (fun _ _ h => h) (fun _ h => h.elim) ?aF ?aB ?aS ?aL ?_
                          (case aR => first | (rw [← show ((l0.take ((wrap64 (x8_1 + (ji39))) : Int).toNat).drop (x8_1 : Int).toNat).length = ((wrap64 (x8_1 + (ji39))).toNat - x8_1.toNat) from (by rw [List.length_drop, List.length_take]; have h_ : ((wrap64 (x8_1 + (ji39))) : Int) ≤ (l0.length : Int) := of_decide_eq_true (by first | (with_reducible assumption) | assumption); omega)]; repeat (first | exact (Kd.C_below HR128.out HB.out) | (with_reducible refine Kd.C_alloc ?_ _) | (with_reducible refine Kd.C_drewN ?_ _) | (with_reducible refine Kd.C_drew ?_))) | (repeat (first | exact (Kd.C_below HR128.out HB.out) | (with_reducible refine Kd.C_alloc ?_ _) | (with_reducible refine Kd.C_drewN ?_ _) | (with_reducible refine Kd.C_drew ?_))))
                          (case aB => exact (by repeat (first | (with_reducible first | exact HB.out | apply below_alloc | apply pw_below_drewN | apply below_drew1) | exact HB.out)))
                          (case aF => exact (fun _ _ => trivial))
                          (case aO => exact (by (with_reducible repeat (first | apply Kd.R_alloc | apply Kd.R_drewN | apply Kd.R_drew)); exact HO127.out))
                          (case aS => exact (below_size (by repeat (first | (with_reducible first | exact HB.out | apply below_alloc | apply pw_below_drewN | apply below_drew1) | exact HB.out))))
                          (case aL => have := LMc44.out; have hlx_ := (show ((l0.take ((wrap64 (x8_1 + (ji39))) : Int).toNat).drop (x8_1 : Int).toNat).length = ((wrap64 (x8_1 + (ji39))).toNat - x8_1.toNat) from (by rw [List.length_drop, List.length_take]; have h_ : ((wrap64 (x8_1 + (ji39))) : Int) ≤ (l0.length : Int) := of_decide_eq_true (by first | (with_reducible assumption) | assumption); omega)); omega)
                          intro v130 w48 ho hb hg hat
                          rw [← Ny129.out] at ho
                          have n0_ := Aside0.mk (hb)
                          have n1_ := Aside0.mk (ho)
                          clear HB
                          clear HO127
                          have HB := n0_
                          have HO131 := n1_
                          clear n0_ n1_
                          clear ho hb hg hat
                          refine hK.out _ _ trivial (fun hHeld => ?_)
                          clear hK K
                          refine norm_ (a' := ?_) ?_ ?_
                          rotate_left
                          · show Act.put _ (some 84) _ = _
                            simp only [Act.put, List.setIfInBounds_toArray, List.set_cons_zero, List.set_cons_succ, i64_w, i32_w]
                            rfl
                          refine pure_ (i := 13) (N := some 7) (v := ?_) (a' := ?_) #[true, true, true, true, true, true, true, true, true, true, true, true, true, true] rfl rfl (any_of HT_.out (by kernel_rfl)) (fun _ _ _ h => h) (Or.inl ⟨by rfl, ?_⟩) ?_ ?_
                          rotate_left
                          · intro w'
                            go_simp
                            with_reducible rfl
                          rotate_left
                          · simp only [Act.put, List.setIfInBounds_toArray, List.set_cons_zero, List.set_cons_succ, i64_w, i32_w]
                            rfl
                          refine done_ (done_of HT_.out (by kernel_rfl)) ?_
                          try go_wp2
                          go_roundg kj6
                          case measure => have := HK1.out; have := HJ6.out; omega
                          case rel => exact ⟨(y129), (wrap64 (x8_1 + (ji39))), (by first | rfl | (simp; done) | (simp only [← hji39] <;> (first | rfl | simp)) | (simp [*]; done)), H', ⟨by have := HK1.out; have := HJ6.out; omega⟩, ⟨by (with_reducible repeat (first | apply Kd.R_alloc | apply Kd.R_drewN | apply Kd.R_drew)); exact HO131.out⟩, ⟨by repeat (first | (with_reducible first | exact HB.out | apply below_alloc | apply pw_below_drewN | apply below_drew1) | exact HB.out)⟩⟩
                        · rw [if_neg c44] at H
                          exact absurd H (by simp)
                      · rw [if_neg c43] at H
                        exact absurd H (by simp)
                    · rw [if_neg c42] at H
                      exact absurd H (by simp)
                  · rw [if_neg c41] at H
                    exact absurd H (by simp)
                · rw [if_neg c40] at H
                  exact absurd H (by simp)
            · rw [if_neg c19] at H
              have c19b0 : ((Go.bits .and .i64 a2 2) == 0) = false := beq_eq_false_iff_ne.mpr c19
              have c19b1 : ((Go.bits .and .i64 a2 2) != 0) = true := bne_iff_ne.mpr c19
              by_cases c49 : x7_1.length < 140737488355328
              · rw [if_pos c49] at H
                have LMc49 := Aside0.mk c49
                clear c49
                obtain ⟨y132, hy132⟩ : ∃ y_ : List Int, y_ = (x7_1 ++ [128]) := ⟨_, rfl⟩
                replace H : (if x9_6 > 1 then (if (Go.bits .and .i64 a2 1) = 0 then (if y132.length < 140737488355328 then ((some (y132 ++ [(wrap64 ((mn a1 (wrap64 ((l0.length : Int) - x8_1))) - 1)) % 256] : List Int)).bind fun y135 => (if 0 ≤ x8_1 then (if x8_1 ≤ (wrap64 (x8_1 + (mn a1 (wrap64 ((l0.length : Int) - x8_1))))) then (if (wrap64 (x8_1 + (mn a1 (wrap64 ((l0.length : Int) - x8_1))))) ≤ (l0.length : Int) then (if y135.length + ((l0.take ((wrap64 (x8_1 + (mn a1 (wrap64 ((l0.length : Int) - x8_1))))) : Int).toNat).drop (x8_1 : Int).toNat).length < 140737488355328 then (spec_Run.l0 kj6 l0 a1 a2 (y135 ++ ((l0.take ((wrap64 (x8_1 + (mn a1 (wrap64 ((l0.length : Int) - x8_1))))) : Int).toNat).drop (x8_1 : Int).toNat)) (wrap64 (x8_1 + (mn a1 (wrap64 ((l0.length : Int) - x8_1)))))) else (none)) else (none)) else (none)) else (none))) else (none)) else (if 0 ≤ x8_1 then (if x8_1 < (l0.length : Int) then ((some (([(wrap64 (257 - x9_6)) % 256, rd l0 x8_1] : List Int) : List Int)).bind fun y143 => (if y132.length + y143.length < 140737488355328 then (spec_Run.l0 kj6 l0 a1 a2 (y132 ++ y143) (wrap64 (x8_1 + x9_6))) else (none))) else (none)) else (none))) else (if y132.length < 140737488355328 then ((some (y132 ++ [(wrap64 ((mn a1 (wrap64 ((l0.length : Int) - x8_1))) - 1)) % 256] : List Int)).bind fun y149 => (if 0 ≤ x8_1 then (if x8_1 ≤ (wrap64 (x8_1 + (mn a1 (wrap64 ((l0.length : Int) - x8_1))))) then (if (wrap64 (x8_1 + (mn a1 (wrap64 ((l0.length : Int) - x8_1))))) ≤ (l0.length : Int) then (if y149.length + ((l0.take ((wrap64 (x8_1 + (mn a1 (wrap64 ((l0.length : Int) - x8_1))))) : Int).toNat).drop (x8_1 : Int).toNat).length < 140737488355328 then (spec_Run.l0 kj6 l0 a1 a2 (y149 ++ ((l0.take ((wrap64 (x8_1 + (mn a1 (wrap64 ((l0.length : Int) - x8_1))))) : Int).toNat).drop (x8_1 : Int).toNat)) (wrap64 (x8_1 + (mn a1 (wrap64 ((l0.length : Int) - x8_1)))))) else (none)) else (none)) else (none)) else (none))) else (none))) = some r := by first | (rw [hy132]; with_reducible exact H) | (have H2_ := (Option.bind_some _ _).symm.trans H; rw [hy132]; with_reducible exact H2_) | (have H2_ := (Option.bind_some _ _).symm.trans H; with_reducible exact H2_) | with_reducible exact H | (rw [hy132]; exact H) | exact H
                have Ny132 := Aside0.mk hy132
                clear hy132
                by_cases c50 : x9_6 > 1
                · rw [if_pos c50] at H
                  have c50b0 : decide (1 < x9_6) = true := decide_eq_true c50
                  clear c50
                  by_cases c51 : (Go.bits .and .i64 a2 1) = 0
                  · rw [if_pos c51] at H
                    have c51b0 : ((Go.bits .and .i64 a2 1) == 0) = true := beq_iff_eq.mpr c51
                    have c51b1 : ((Go.bits .and .i64 a2 1) != 0) = false := bne_eq_false_iff_eq.mpr c51
                    clear c51
                    obtain ⟨ji52, hji52⟩ : ∃ j_ : Int, (mn a1 (wrap64 ((l0.length : Int) - x8_1))) = j_ := ⟨_, rfl⟩
                    replace H : (if y132.length < 140737488355328 then ((some (y132 ++ [(wrap64 ((ji52) - 1)) % 256] : List Int)).bind fun y135 => (if 0 ≤ x8_1 then (if x8_1 ≤ (wrap64 (x8_1 + (ji52))) then (if (wrap64 (x8_1 + (ji52))) ≤ (l0.length : Int) then (if y135.length + ((l0.take ((wrap64 (x8_1 + (ji52))) : Int).toNat).drop (x8_1 : Int).toNat).length < 140737488355328 then (spec_Run.l0 kj6 l0 a1 a2 (y135 ++ ((l0.take ((wrap64 (x8_1 + (ji52))) : Int).toNat).drop (x8_1 : Int).toNat)) (wrap64 (x8_1 + (ji52)))) else (none)) else (none)) else (none)) else (none))) else (none)) = some r := by first | (rw [hji52] at H; exact H) | (simp only [hji52] at H ⊢; exact H)
                    have hji52_ : (if (wrap64 ((l0.length : Int) - x8_1)) < a1 then (wrap64 ((l0.length : Int) - x8_1)) else a1) = ji52 := hji52
                    by_cases c53 : y132.length < 140737488355328
                    · rw [if_pos c53] at H
                      have LMc53 := Aside0.mk c53
                      clear c53
                      obtain ⟨y135, hy135⟩ : ∃ y_ : List Int, y_ = (y132 ++ [(wrap64 ((ji52) - 1)) % 256]) := ⟨_, rfl⟩
                      replace H : (if 0 ≤ x8_1 then (if x8_1 ≤ (wrap64 (x8_1 + (ji52))) then (if (wrap64 (x8_1 + (ji52))) ≤ (l0.length : Int) then (if y135.length + ((l0.take ((wrap64 (x8_1 + (ji52))) : Int).toNat).drop (x8_1 : Int).toNat).length < 140737488355328 then (spec_Run.l0 kj6 l0 a1 a2 (y135 ++ ((l0.take ((wrap64 (x8_1 + (ji52))) : Int).toNat).drop (x8_1 : Int).toNat)) (wrap64 (x8_1 + (ji52)))) else (none)) else (none)) else (none)) else (none)) = some r := by first | (rw [hy135]; with_reducible exact H) | (have H2_ := (Option.bind_some _ _).symm.trans H; rw [hy135]; with_reducible exact H2_) | (have H2_ := (Option.bind_some _ _).symm.trans H; with_reducible exact H2_) | with_reducible exact H | (rw [hy135]; exact H) | exact H
                      have Ny135 := Aside0.mk hy135
                      clear hy135
                      by_cases c54 : 0 ≤ x8_1
                      · rw [if_pos c54] at H
                        have c54b0 := eq_true c54
                        have c54b1 : decide (0 ≤ x8_1) = true := decide_eq_true c54
                        clear c54
                        by_cases c55 : x8_1 ≤ (wrap64 (x8_1 + (ji52)))
                        · rw [if_pos c55] at H
                          have c55b0 := eq_true c55
                          have c55b1 : decide (x8_1 ≤ (wrap64 (x8_1 + (ji52)))) = true := decide_eq_true c55
                          by_cases c56 : (wrap64 (x8_1 + (ji52))) ≤ (l0.length : Int)
                          · rw [if_pos c56] at H
                            have c56b0 := eq_true c56
                            have c56b1 : decide ((wrap64 (x8_1 + (ji52))) ≤ (l0.length : Int)) = true := decide_eq_true c56
                            by_cases c57 : y135.length + ((l0.take ((wrap64 (x8_1 + (ji52))) : Int).toNat).drop (x8_1 : Int).toNat).length < 140737488355328
                            · rw [if_pos c57] at H
                              have LMc57 := Aside0.mk c57
                              clear c57
                              obtain ⟨y139, hy139⟩ : ∃ y_ : List Int, y_ = (y135 ++ ((l0.take ((wrap64 (x8_1 + (ji52))) : Int).toNat).drop (x8_1 : Int).toNat)) := ⟨_, rfl⟩
                              replace H : (spec_Run.l0 kj6 l0 a1 a2 y139 (wrap64 (x8_1 + (ji52)))) = some r := by first | (rw [hy139]; with_reducible exact H) | (have H2_ := (Option.bind_some _ _).symm.trans H; rw [hy139]; with_reducible exact H2_) | (have H2_ := (Option.bind_some _ _).symm.trans H; with_reducible exact H2_) | with_reducible exact H | (rw [hy139]; exact H) | exact H
                              have Ny139 := Aside0.mk hy139
                              clear hy139
                              have H' := Aside0.mk H
                              clear H
                              try go_wp2_with (first | ((with_reducible refine gate_builtin (b := .append) (xs := #[.tmp 43, .tmp 44]) rfl ?_); at_builtin; refine Kd.R_append (Kd.int .u8) (w0 := w) w.heap.size rfl (.tmp 43) (.tmp 44) 22 5 (.int .u8 0) 1 rfl Tryd.underlying22 info5 rfl (by decide) (by omega) u7 x7_1 128 [.int .u8 128] (fun _ => True) (fun _ => False) rfl rfl ?aP (fun _ hk => hk.elim) ?aF ?aO ?aB ?aS ?aL ?_; (case aP => exact rfl); (case aB => exact (by repeat (first | (with_reducible first | exact HB.out | apply below_alloc | apply pw_below_drewN | apply below_drew1) | exact HB.out))); (case aF => exact (fun _ _ => trivial)); (case aO => exact (by (with_reducible repeat (first | apply Kd.R_alloc | apply Kd.R_drewN | apply Kd.R_drew)); exact HO_7.out)); (case aS => exact (below_size (by repeat (first | (with_reducible first | exact HB.out | apply below_alloc | apply pw_below_drewN | apply below_drew1) | exact HB.out)))); (case aL => have := LMc49.out; omega); intro v133 w58 ho hb hg hat; rw [← Ny132.out] at ho; have n0_ := Aside0.mk (hb); have n1_ := Aside0.mk (ho); clear HB; clear HO_7; have HB := n0_; have HO134 := n1_; clear n0_ n1_; clear ho hb hg hat))
                              have n0_ := Aside0.mk (Kd.R_drew HO134.out)
                              have n1_ := Aside0.mk (below_drew1 HB.out)
                              clear HO134
                              clear HB
                              have HO134 := n0_
                              have HB := n1_
                              clear n0_ n1_
                              obtain ⟨i060, hi060, _, hsz60, _⟩ := info_parts info5
                              obtain ⟨A60, hcut60, hA60, hC60⟩ := print_mid_of (P := Tryd.prog) (Value.int .u8) 0 22 5 .i64 .i64 Tryd.underlying22 hi060 hsz60 A0 c0 l0 x8_1 (wrap64 (x8_1 + (ji52))) (of_decide_eq_true (by first | (with_reducible assumption) | assumption)) (by first | omega | exact of_decide_eq_true (by first | (with_reducible assumption) | assumption)) (of_decide_eq_true (by first | (with_reducible assumption) | assumption)) HC0.out
                              have HR138 := Aside0.mk (Kd.C_of_reads (h1 := fun _ => rfl) (hA60 _ (Kd.reads_of_C HR0.out)))
                              have HC138 := Aside0.mk hC60
                              clear hA60 hC60 hi060 hsz60
                              refine start_ (n := 14) (S := fun w' => True) (ds := []) #[false, false, false, false, false, false, false, false, false, false, false, false, false, false] (by kernel_rfl) rfl rfl trivial (fun hHeld => ?_); refine with_tabW spec_Run.tab13 spec_Run.bits13 (fun HT_ HW_ => ?_)
                              generalize w58.drew = w59 at HO134 HB HR138 hHeld ⊢
                              refine pure_ (i := 0) (N := some 72) (v := ?_) (a' := ?_) #[true, false, false, false, false, false, false, false, false, false, false, false, false, false] rfl rfl (any_of HT_.out (by kernel_rfl)) (fun _ _ _ h => h) (Or.inl ⟨by rfl, ?_⟩) ?_ ?_
                              rotate_left
                              · intro w'
                                go_simp
                                with_reducible rfl
                              rotate_left
                              · simp only [Act.put, List.setIfInBounds_toArray, List.set_cons_zero, List.set_cons_succ, i64_w, i32_w]
                                rfl
                              refine pure_ (i := 1) (N := some 73) (v := ?_) (a' := ?_) #[true, true, false, false, false, false, false, false, false, false, false, false, false, false] rfl rfl (any_of HT_.out (by kernel_rfl)) (fun _ _ _ h => h) (Or.inl ⟨by rfl, ?_⟩) ?_ ?_
                              rotate_left
                              · intro w'
                                go_simp
                                with_reducible rfl
                              rotate_left
                              · simp only [Act.put, List.setIfInBounds_toArray, List.set_cons_zero, List.set_cons_succ, i64_w, i32_w]
                                rfl
                              refine pure_ (i := 2) (N := some 74) (v := ?_) (a' := ?_) #[true, true, true, false, false, false, false, false, false, false, false, false, false, false] rfl rfl (any_of HT_.out (by kernel_rfl)) (fun _ _ _ h => h) (Or.inl ⟨by rfl, ?_⟩) ?_ ?_
                              rotate_left
                              · intro w'
                                go_simp
                                with_reducible rfl
                              rotate_left
                              · simp only [Act.put, List.setIfInBounds_toArray, List.set_cons_zero, List.set_cons_succ, i64_w, i32_w]
                                rfl
                              refine pure_ (i := 3) (N := some 75) (v := ?_) (a' := ?_) #[true, true, true, true, false, false, false, false, false, false, false, false, false, false] rfl rfl (any_of HT_.out (by kernel_rfl)) (fun _ _ _ h => h) (Or.inl ⟨by rfl, ?_⟩) ?_ ?_
                              rotate_left
                              · intro w'
                                go_simp
                                with_reducible rfl
                              rotate_left
                              · simp only [Act.put, List.setIfInBounds_toArray, List.set_cons_zero, List.set_cons_succ, i64_w, i32_w]
                                rfl
                              refine pure_ (i := 6) (N := some 78) (v := ?_) (a' := ?_) #[true, true, true, true, false, false, true, false, false, false, false, false, false, false] rfl rfl (any_of HT_.out (by kernel_rfl)) (fun _ _ _ h => h) (Or.inl ⟨by rfl, ?_⟩) ?_ ?_
                              rotate_left
                              · intro w'
                                go_simp
                                with_reducible rfl
                              rotate_left
                              · simp only [Act.put, List.setIfInBounds_toArray, List.set_cons_zero, List.set_cons_succ, i64_w, i32_w]
                                rfl
                              refine pure_ (i := 7) (N := some 79) (v := ?_) (a' := ?_) #[true, true, true, true, false, false, true, true, false, false, false, false, false, false] rfl rfl (any_of HT_.out (by kernel_rfl)) (fun _ _ _ h => h) (Or.inl ⟨by rfl, ?_⟩) ?_ ?_
                              rotate_left
                              · intro w'
                                go_simp
                                with_reducible rfl
                              rotate_left
                              · simp only [Act.put, List.setIfInBounds_toArray, List.set_cons_zero, List.set_cons_succ, i64_w, i32_w]
                                rfl
                              refine pure_ (i := 8) (N := some 80) (v := ?_) (a' := ?_) #[true, true, true, true, false, false, true, true, true, false, false, false, false, false] rfl rfl (any_of HT_.out (by kernel_rfl)) (fun _ _ _ h => h) (Or.inl ⟨by rfl, ?_⟩) ?_ ?_
                              rotate_left
                              · intro w'
                                go_simp
                                with_reducible rfl
                              rotate_left
                              · simp only [Act.put, List.setIfInBounds_toArray, List.set_cons_zero, List.set_cons_succ, i64_w, i32_w]
                                rfl
                              refine pure_ (i := 9) (N := some 81) (v := ?_) (a' := ?_) #[true, true, true, true, false, false, true, true, true, true, false, false, false, false] rfl rfl (any_of HT_.out (by kernel_rfl)) (fun _ _ _ h => h) (Or.inl ⟨by rfl, ?_⟩) ?_ ?_
                              rotate_left
                              · intro w'
                                go_simp
                                with_reducible rfl
                              rotate_left
                              · simp only [Act.put, List.setIfInBounds_toArray, List.set_cons_zero, List.set_cons_succ, i64_w, i32_w]
                                rfl
                              refine pure_ (i := 10) (N := some 82) (v := ?_) (a' := ?_) #[true, true, true, true, false, false, true, true, true, true, true, false, false, false] rfl rfl (any_of HT_.out (by kernel_rfl)) (fun _ _ _ h => h) (Or.inl ⟨by rfl, ?_⟩) ?_ ?_
                              rotate_left
                              · intro w'
                                go_simp
                                with_reducible rfl
                              rotate_left
                              · simp only [Act.put, List.setIfInBounds_toArray, List.set_cons_zero, List.set_cons_succ, i64_w, i32_w]
                                rfl
                              refine pure_ (i := 11) (N := some 83) (v := ?_) (a' := ?_) #[true, true, true, true, false, false, true, true, true, true, true, true, false, false] rfl rfl (any_of HT_.out (by kernel_rfl)) (fun _ _ _ h => h) (Or.inl ⟨by rfl, ?_⟩) ?_ ?_
                              rotate_left
                              · intro w'
                                go_simp
                                with_reducible rfl
                              rotate_left
                              · simp only [Act.put, List.setIfInBounds_toArray, List.set_cons_zero, List.set_cons_succ, i64_w, i32_w]
                                rfl
                              refine one_ (i := 4) (N := some 76) #[true, true, true, true, true, false, true, true, true, true, true, true, false, false] rfl rfl (one_of HT_.out (by kernel_rfl)) (by decide) (fun K hK => ?_)
                              refine value_ (w1 := ?_) (v := ?_) (by rfl) rfl ?_ ?_
                              rotate_left 2
                              · go_simp
                                constructor
                                · rfl
                                · rfl
                              refine hK.out _ _ trivial (fun hHeld => ?_)
                              clear hK K
                              refine norm_ (a' := ?_) ?_ ?_
                              rotate_left
                              · show Act.put _ (some 76) _ = _
                                simp only [Act.put, List.setIfInBounds_toArray, List.set_cons_zero, List.set_cons_succ, i64_w, i32_w]
                                rfl
                              refine one_ (i := 5) (N := some 77) #[true, true, true, true, true, true, true, true, true, true, true, true, false, false] rfl rfl (one_of HT_.out (by kernel_rfl)) (by decide) (fun K hK => ?_)
                              refine Kd.R_append_step (Kd.int .u8) (w0 := w) w.heap.size (by rfl) (.tmp 72) (.tmp 76) 22 5 (.int .u8 0) 1 rfl Tryd.underlying22 info5 rfl (by decide) (by omega) v133 y132 ((wrap64 ((ji52) - 1)) % 256) [.int .u8 ((wrap64 ((ji52) - 1)) % 256)] (fun _ => True) (fun _ => False) rfl rfl ?aP (fun _ hk => hk.elim) ?aF ?aO ?aB ?aS ?aL ?_
                              (case aP => exact rfl)
                              (case aB => exact (by repeat (first | (with_reducible first | exact HB.out | apply below_alloc | apply pw_below_drewN | apply below_drew1) | exact HB.out)))
                              (case aF => exact (fun _ _ => trivial))
                              (case aO => exact (by (with_reducible repeat (first | apply Kd.R_alloc | apply Kd.R_drewN | apply Kd.R_drew)); exact HO134.out))
                              (case aS => exact (below_size (by repeat (first | (with_reducible first | exact HB.out | apply below_alloc | apply pw_below_drewN | apply below_drew1) | exact HB.out))))
                              (case aL => have := LMc53.out; omega)
                              intro v136 w61 ho hb hg hat
                              rw [← Ny135.out] at ho
                              have n0_ := Aside0.mk (hb)
                              have n1_ := Aside0.mk (ho)
                              clear HB
                              clear HO134
                              have HB := n0_
                              have HO137 := n1_
                              clear n0_ n1_
                              clear ho hb hg hat
                              refine hK.out _ _ trivial (fun hHeld => ?_)
                              clear hK K
                              refine norm_ (a' := ?_) ?_ ?_
                              rotate_left
                              · show Act.put _ (some 77) _ = _
                                simp only [Act.put, List.setIfInBounds_toArray, List.set_cons_zero, List.set_cons_succ, i64_w, i32_w]
                                rfl
                              refine one_ (i := 12) (N := some 84) #[true, true, true, true, true, true, true, true, true, true, true, true, true, false] rfl rfl (one_of HT_.out (by kernel_rfl)) (by decide) (fun K hK => ?_)
                              refine Kd.R_append_rows_step (Kd.int .u8) (w0 := w) w.heap.size (by rfl) (.tmp 77) (.tmp 83) 22 5 (.int .u8 0) 1 rfl Tryd.underlying22 info5 rfl (by decide) (by omega) v136 y135 ((l0.take ((wrap64 (x8_1 + (ji52))) : Int).toNat).drop (x8_1 : Int).toNat) _ _ _ (fun _ => True) (fun _ => False) rfl rfl ?aO ?aR (fun _ _ h => h) (fun _ h => h.elim) ?aF ?aB ?aS ?aL ?_
                              (case aR => first | (rw [← show ((l0.take ((wrap64 (x8_1 + (ji52))) : Int).toNat).drop (x8_1 : Int).toNat).length = ((wrap64 (x8_1 + (ji52))).toNat - x8_1.toNat) from (by rw [List.length_drop, List.length_take]; have h_ : ((wrap64 (x8_1 + (ji52))) : Int) ≤ (l0.length : Int) := of_decide_eq_true (by first | (with_reducible assumption) | assumption); omega)]; repeat (first | exact (Kd.C_below HR138.out HB.out) | (with_reducible refine Kd.C_alloc ?_ _) | (with_reducible refine Kd.C_drewN ?_ _) | (with_reducible refine Kd.C_drew ?_))) | (repeat (first | exact (Kd.C_below HR138.out HB.out) | (with_reducible refine Kd.C_alloc ?_ _) | (with_reducible refine Kd.C_drewN ?_ _) | (with_reducible refine Kd.C_drew ?_))))
                              (case aB => exact (by repeat (first | (with_reducible first | exact HB.out | apply below_alloc | apply pw_below_drewN | apply below_drew1) | exact HB.out)))
                              (case aF => exact (fun _ _ => trivial))
                              (case aO => exact (by (with_reducible repeat (first | apply Kd.R_alloc | apply Kd.R_drewN | apply Kd.R_drew)); exact HO137.out))
                              (case aS => exact (below_size (by repeat (first | (with_reducible first | exact HB.out | apply below_alloc | apply pw_below_drewN | apply below_drew1) | exact HB.out))))
                              (case aL => have := LMc57.out; have hlx_ := (show ((l0.take ((wrap64 (x8_1 + (ji52))) : Int).toNat).drop (x8_1 : Int).toNat).length = ((wrap64 (x8_1 + (ji52))).toNat - x8_1.toNat) from (by rw [List.length_drop, List.length_take]; have h_ : ((wrap64 (x8_1 + (ji52))) : Int) ≤ (l0.length : Int) := of_decide_eq_true (by first | (with_reducible assumption) | assumption); omega)); omega)
                              intro v140 w62 ho hb hg hat
                              rw [← Ny139.out] at ho
                              have n0_ := Aside0.mk (hb)
                              have n1_ := Aside0.mk (ho)
                              clear HB
                              clear HO137
                              have HB := n0_
                              have HO141 := n1_
                              clear n0_ n1_
                              clear ho hb hg hat
                              refine hK.out _ _ trivial (fun hHeld => ?_)
                              clear hK K
                              refine norm_ (a' := ?_) ?_ ?_
                              rotate_left
                              · show Act.put _ (some 84) _ = _
                                simp only [Act.put, List.setIfInBounds_toArray, List.set_cons_zero, List.set_cons_succ, i64_w, i32_w]
                                rfl
                              refine pure_ (i := 13) (N := some 7) (v := ?_) (a' := ?_) #[true, true, true, true, true, true, true, true, true, true, true, true, true, true] rfl rfl (any_of HT_.out (by kernel_rfl)) (fun _ _ _ h => h) (Or.inl ⟨by rfl, ?_⟩) ?_ ?_
                              rotate_left
                              · intro w'
                                go_simp
                                with_reducible rfl
                              rotate_left
                              · simp only [Act.put, List.setIfInBounds_toArray, List.set_cons_zero, List.set_cons_succ, i64_w, i32_w]
                                rfl
                              refine done_ (done_of HT_.out (by kernel_rfl)) ?_
                              try go_wp2
                              go_roundg kj6
                              case measure => have := HK1.out; have := HJ6.out; omega
                              case rel => exact ⟨(y139), (wrap64 (x8_1 + (ji52))), (by first | rfl | (simp; done) | (simp only [← hji52] <;> (first | rfl | simp)) | (simp [*]; done)), H', ⟨by have := HK1.out; have := HJ6.out; omega⟩, ⟨by (with_reducible repeat (first | apply Kd.R_alloc | apply Kd.R_drewN | apply Kd.R_drew)); exact HO141.out⟩, ⟨by repeat (first | (with_reducible first | exact HB.out | apply below_alloc | apply pw_below_drewN | apply below_drew1) | exact HB.out)⟩⟩
                            · rw [if_neg c57] at H
                              exact absurd H (by simp)
                          · rw [if_neg c56] at H
                            exact absurd H (by simp)
                        · rw [if_neg c55] at H
                          exact absurd H (by simp)
                      · rw [if_neg c54] at H
                        exact absurd H (by simp)
                    · rw [if_neg c53] at H
                      exact absurd H (by simp)
                  · rw [if_neg c51] at H
                    have c51b0 : ((Go.bits .and .i64 a2 1) == 0) = false := beq_eq_false_iff_ne.mpr c51
                    have c51b1 : ((Go.bits .and .i64 a2 1) != 0) = true := bne_iff_ne.mpr c51
                    by_cases c63 : 0 ≤ x8_1
                    · rw [if_pos c63] at H
                      have c63b0 : decide (0 ≤ x8_1) = true := decide_eq_true c63
                      clear c63
                      by_cases c64 : x8_1 < (l0.length : Int)
                      · rw [if_pos c64] at H
                        have c64b0 : decide (x8_1 < (l0.length : Int)) = true := decide_eq_true c64
                        clear c64
                        obtain ⟨y143, hy143⟩ : ∃ y_ : List Int, y_ = (([(wrap64 (257 - x9_6)) % 256, rd l0 x8_1] : List Int)) := ⟨_, rfl⟩
                        replace H : (if y132.length + y143.length < 140737488355328 then (spec_Run.l0 kj6 l0 a1 a2 (y132 ++ y143) (wrap64 (x8_1 + x9_6))) else (none)) = some r := by first | (rw [hy143]; with_reducible exact H) | (have H2_ := (Option.bind_some _ _).symm.trans H; rw [hy143]; with_reducible exact H2_) | (have H2_ := (Option.bind_some _ _).symm.trans H; with_reducible exact H2_) | with_reducible exact H | (rw [hy143]; exact H) | exact H
                        have Ny143 := Aside0.mk hy143
                        clear hy143
                        by_cases c65 : y132.length + y143.length < 140737488355328
                        · rw [if_pos c65] at H
                          have LMc65 := Aside0.mk c65
                          clear c65
                          obtain ⟨y146, hy146⟩ : ∃ y_ : List Int, y_ = (y132 ++ y143) := ⟨_, rfl⟩
                          replace H : (spec_Run.l0 kj6 l0 a1 a2 y146 (wrap64 (x8_1 + x9_6))) = some r := by first | (rw [hy146]; with_reducible exact H) | (have H2_ := (Option.bind_some _ _).symm.trans H; rw [hy146]; with_reducible exact H2_) | (have H2_ := (Option.bind_some _ _).symm.trans H; with_reducible exact H2_) | with_reducible exact H | (rw [hy146]; exact H) | exact H
                          have Ny146 := Aside0.mk hy146
                          clear hy146
                          have H' := Aside0.mk H
                          clear H
                          go_wp2_with (first | ((with_reducible refine gate_builtin (b := .append) (xs := #[.tmp 43, .tmp 44]) rfl ?_); at_builtin; refine Kd.R_append (Kd.int .u8) (w0 := w) w.heap.size rfl (.tmp 43) (.tmp 44) 22 5 (.int .u8 0) 1 rfl Tryd.underlying22 info5 rfl (by decide) (by omega) u7 x7_1 128 [.int .u8 128] (fun _ => True) (fun _ => False) rfl rfl ?aP (fun _ hk => hk.elim) ?aF ?aO ?aB ?aS ?aL ?_; (case aP => exact rfl); (case aB => exact (by repeat (first | (with_reducible first | exact HB.out | apply below_alloc | apply pw_below_drewN | apply below_drew1) | exact HB.out))); (case aF => exact (fun _ _ => trivial)); (case aO => exact (by (with_reducible repeat (first | apply Kd.R_alloc | apply Kd.R_drewN | apply Kd.R_drew)); exact HO_7.out)); (case aS => exact (below_size (by repeat (first | (with_reducible first | exact HB.out | apply below_alloc | apply pw_below_drewN | apply below_drew1) | exact HB.out)))); (case aL => have := LMc49.out; omega); intro v133 w66 ho hb hg hat; rw [← Ny132.out] at ho; have n0_ := Aside0.mk (hb); have n1_ := Aside0.mk (ho); clear HB; clear HO_7; have HB := n0_; have HO134 := n1_; clear n0_ n1_; clear ho hb hg hat; have p142 : 0 ≤ (x8_1 : Int) := of_decide_eq_true (by first | (with_reducible assumption) | assumption); have q142 : x8_1 < (l0.length : Int) := of_decide_eq_true (by first | (with_reducible assumption) | assumption); obtain ⟨ad142, e142, hx142_0⟩ := Kd.at_int HR0.out x8_1 p142 q142; cases e142; replace hx142_0 := (HB.out.cell (World.block_lt_of_cell? w _ hx142_0)).trans hx142_0; replace p142 := eq_true p142; replace q142 := eq_true q142) | ((with_reducible refine gate_dst (N := 61) rfl ?_); refine Kd.R_lit (Kd.int .u8) _ 5 ?hg (N := 61) ?hd (xs := ([(wrap64 (257 - x9_6)) % 256, rd l0 x8_1] : List Int)) (inner := [.int .u8 ((wrap64 (257 - x9_6)) % 256), .int .u8 (rd l0 x8_1)]) (ok := fun _ => True) (okp := fun _ => True) ?hr ?hp (fun _ hk => hk) trivial (Below.refl _ _) (Nat.le_refl _) (by simp) ?_; (case hd => rfl); (case hg => rfl); (case hr => first | (go_simp; done) | (go_simp; rfl)); (case hp => exact (Reps.one (show Kd.M (Kd.int .u8) _ _ _ ((wrap64 (257 - x9_6)) % 256) [.int .u8 ((wrap64 (257 - x9_6)) % 256)] from rfl) (Reps.one (show Kd.M (Kd.int .u8) _ _ _ (rd l0 x8_1) [.int .u8 (rd l0 x8_1)] from rfl) (Reps.none _ _)))); intro v144 w67 ho68 hb hg_ hnew_; clear hg_ hnew_; (first | rw [← Ny143.out] at ho68 | (simp only [Int.reduceToNat] at ho68; rw [← Ny143.out] at ho68)); have n0_ := Aside0.mk (Kd.R_elder' (by (with_reducible repeat (first | apply Kd.R_alloc | apply Kd.R_drewN | apply Kd.R_drew)); exact HO134.out) (Kd.R_base ho68) hb); have n1_ := Aside0.mk (Kd.R_lower (Kd.R_new' ho68 (Kd.R_lt (by (with_reducible repeat (first | apply Kd.R_alloc | apply Kd.R_drewN | apply Kd.R_drew)); exact HO134.out))) (below_size (by repeat (first | (with_reducible first | exact HB.out | apply below_alloc | apply pw_below_drewN | apply below_drew1) | exact HB.out)))); have n2_ := Aside0.mk (below_step (by repeat (first | (with_reducible first | exact HB.out | apply below_alloc | apply pw_below_drewN | apply below_drew1) | exact HB.out)) hb); clear HO134; clear HB; have HO134 := n0_; have HO145 := n1_; have HB := n2_; clear n0_ n1_ n2_; clear hb ho68; obtain ⟨Ao70, co70, eo70⟩ := Kd.R_slice HO145.out; subst eo70) | ((with_reducible refine gate_builtin (b := .append) (xs := #[.tmp 53, .tmp 61]) rfl ?_); at_builtin; refine Kd.R_append_rows (Kd.int .u8) (w0 := w) w.heap.size rfl (.tmp 53) (.tmp 61) 22 5 (.int .u8 0) 1 rfl Tryd.underlying22 info5 rfl (by decide) (by omega) v133 y132 y143 _ _ _ (fun k_ => some k_ ≠ (.slice Ao70 y143.length co70 : Value).ownBlock) (fun _ => False) rfl rfl ?aO ?aR (fun _ _ h => h) (fun _ h => h.elim) ?aF ?aB ?aS ?aL ?_; (case aR => repeat (first | exact (Kd.R_reads' HO145.out).2.2 | (with_reducible refine Kd.C_alloc ?_ _) | (with_reducible refine Kd.C_drewN ?_ _) | (with_reducible refine Kd.C_drew ?_))); (case aB => exact (by repeat (first | (with_reducible first | exact HB.out | apply below_alloc | apply pw_below_drewN | apply below_drew1) | exact HB.out))); (case aF => exact (fun k_ hk => Kd.fresh' (Kd.R_lt (by (with_reducible repeat (first | apply Kd.R_alloc | apply Kd.R_drewN | apply Kd.R_drew)); exact HO145.out)) k_ hk)); (case aO => exact (by (with_reducible repeat (first | apply Kd.R_alloc | apply Kd.R_drewN | apply Kd.R_drew)); exact Kd.R_mono HO134.out (fun _ hk => hk.2))); (case aS => exact (below_size (by repeat (first | (with_reducible first | exact HB.out | apply below_alloc | apply pw_below_drewN | apply below_drew1) | exact HB.out)))); (case aL => have := LMc65.out; omega); intro v147 w69 ho hb hg hat; rw [← Ny146.out] at ho; have n0_ := Aside0.mk (Kd.R_after (ok := (fun _ => True)) (by (with_reducible repeat (first | apply Kd.R_alloc | apply Kd.R_drewN | apply Kd.R_drew)); exact HO145.out) hg hat); have n1_ := Aside0.mk (hb); have n2_ := Aside0.mk (ho); clear HO145; clear HB; clear HO134; have HO145 := n0_; have HB := n1_; have HO148 := n2_; clear n0_ n1_ n2_; clear ho hb hg hat))
                          go_roundg kj6
                          case measure => have := HK1.out; have := HJ6.out; omega
                          case rel => exact ⟨(y146), (wrap64 (x8_1 + x9_6)), (by first | rfl | (simp; done) | (simp [*]; done)), H', ⟨by have := HK1.out; have := HJ6.out; omega⟩, ⟨by (with_reducible repeat (first | apply Kd.R_alloc | apply Kd.R_drewN | apply Kd.R_drew)); exact Kd.R_mono HO148.out (fun _ hk => trivial)⟩, ⟨by repeat (first | (with_reducible first | exact HB.out | apply below_alloc | apply pw_below_drewN | apply below_drew1) | exact HB.out)⟩⟩
                        · rw [if_neg c65] at H
                          exact absurd H (by simp)
                      · rw [if_neg c64] at H
                        exact absurd H (by simp)
                    · rw [if_neg c63] at H
                      exact absurd H (by simp)
                · rw [if_neg c50] at H
                  have c50b0 : decide (1 < x9_6) = false := decide_eq_false c50
                  clear c50
                  obtain ⟨ji71, hji71⟩ : ∃ j_ : Int, (mn a1 (wrap64 ((l0.length : Int) - x8_1))) = j_ := ⟨_, rfl⟩
                  replace H : (if y132.length < 140737488355328 then ((some (y132 ++ [(wrap64 ((ji71) - 1)) % 256] : List Int)).bind fun y149 => (if 0 ≤ x8_1 then (if x8_1 ≤ (wrap64 (x8_1 + (ji71))) then (if (wrap64 (x8_1 + (ji71))) ≤ (l0.length : Int) then (if y149.length + ((l0.take ((wrap64 (x8_1 + (ji71))) : Int).toNat).drop (x8_1 : Int).toNat).length < 140737488355328 then (spec_Run.l0 kj6 l0 a1 a2 (y149 ++ ((l0.take ((wrap64 (x8_1 + (ji71))) : Int).toNat).drop (x8_1 : Int).toNat)) (wrap64 (x8_1 + (ji71)))) else (none)) else (none)) else (none)) else (none))) else (none)) = some r := by first | (rw [hji71] at H; exact H) | (simp only [hji71] at H ⊢; exact H)
                  have hji71_ : (if (wrap64 ((l0.length : Int) - x8_1)) < a1 then (wrap64 ((l0.length : Int) - x8_1)) else a1) = ji71 := hji71
                  by_cases c72 : y132.length < 140737488355328
                  · rw [if_pos c72] at H
                    have LMc72 := Aside0.mk c72
                    clear c72
                    obtain ⟨y149, hy149⟩ : ∃ y_ : List Int, y_ = (y132 ++ [(wrap64 ((ji71) - 1)) % 256]) := ⟨_, rfl⟩
                    replace H : (if 0 ≤ x8_1 then (if x8_1 ≤ (wrap64 (x8_1 + (ji71))) then (if (wrap64 (x8_1 + (ji71))) ≤ (l0.length : Int) then (if y149.length + ((l0.take ((wrap64 (x8_1 + (ji71))) : Int).toNat).drop (x8_1 : Int).toNat).length < 140737488355328 then (spec_Run.l0 kj6 l0 a1 a2 (y149 ++ ((l0.take ((wrap64 (x8_1 + (ji71))) : Int).toNat).drop (x8_1 : Int).toNat)) (wrap64 (x8_1 + (ji71)))) else (none)) else (none)) else (none)) else (none)) = some r := by first | (rw [hy149]; with_reducible exact H) | (have H2_ := (Option.bind_some _ _).symm.trans H; rw [hy149]; with_reducible exact H2_) | (have H2_ := (Option.bind_some _ _).symm.trans H; with_reducible exact H2_) | with_reducible exact H | (rw [hy149]; exact H) | exact H
                    have Ny149 := Aside0.mk hy149
                    clear hy149
                    by_cases c73 : 0 ≤ x8_1
                    · rw [if_pos c73] at H
                      have c73b0 := eq_true c73
                      have c73b1 : decide (0 ≤ x8_1) = true := decide_eq_true c73
                      clear c73
                      by_cases c74 : x8_1 ≤ (wrap64 (x8_1 + (ji71)))
                      · rw [if_pos c74] at H
                        have c74b0 := eq_true c74
                        have c74b1 : decide (x8_1 ≤ (wrap64 (x8_1 + (ji71)))) = true := decide_eq_true c74
                        by_cases c75 : (wrap64 (x8_1 + (ji71))) ≤ (l0.length : Int)
                        · rw [if_pos c75] at H
                          have c75b0 := eq_true c75
                          have c75b1 : decide ((wrap64 (x8_1 + (ji71))) ≤ (l0.length : Int)) = true := decide_eq_true c75
                          by_cases c76 : y149.length + ((l0.take ((wrap64 (x8_1 + (ji71))) : Int).toNat).drop (x8_1 : Int).toNat).length < 140737488355328
                          · rw [if_pos c76] at H
                            have LMc76 := Aside0.mk c76
                            clear c76
                            obtain ⟨y153, hy153⟩ : ∃ y_ : List Int, y_ = (y149 ++ ((l0.take ((wrap64 (x8_1 + (ji71))) : Int).toNat).drop (x8_1 : Int).toNat)) := ⟨_, rfl⟩
                            replace H : (spec_Run.l0 kj6 l0 a1 a2 y153 (wrap64 (x8_1 + (ji71)))) = some r := by first | (rw [hy153]; with_reducible exact H) | (have H2_ := (Option.bind_some _ _).symm.trans H; rw [hy153]; with_reducible exact H2_) | (have H2_ := (Option.bind_some _ _).symm.trans H; with_reducible exact H2_) | with_reducible exact H | (rw [hy153]; exact H) | exact H
                            have Ny153 := Aside0.mk hy153
                            clear hy153
                            have H' := Aside0.mk H
                            clear H
                            try go_wp2_with (first | ((with_reducible refine gate_builtin (b := .append) (xs := #[.tmp 43, .tmp 44]) rfl ?_); at_builtin; refine Kd.R_append (Kd.int .u8) (w0 := w) w.heap.size rfl (.tmp 43) (.tmp 44) 22 5 (.int .u8 0) 1 rfl Tryd.underlying22 info5 rfl (by decide) (by omega) u7 x7_1 128 [.int .u8 128] (fun _ => True) (fun _ => False) rfl rfl ?aP (fun _ hk => hk.elim) ?aF ?aO ?aB ?aS ?aL ?_; (case aP => exact rfl); (case aB => exact (by repeat (first | (with_reducible first | exact HB.out | apply below_alloc | apply pw_below_drewN | apply below_drew1) | exact HB.out))); (case aF => exact (fun _ _ => trivial)); (case aO => exact (by (with_reducible repeat (first | apply Kd.R_alloc | apply Kd.R_drewN | apply Kd.R_drew)); exact HO_7.out)); (case aS => exact (below_size (by repeat (first | (with_reducible first | exact HB.out | apply below_alloc | apply pw_below_drewN | apply below_drew1) | exact HB.out)))); (case aL => have := LMc49.out; omega); intro v133 w77 ho hb hg hat; rw [← Ny132.out] at ho; have n0_ := Aside0.mk (hb); have n1_ := Aside0.mk (ho); clear HB; clear HO_7; have HB := n0_; have HO134 := n1_; clear n0_ n1_; clear ho hb hg hat))
                            have n0_ := Aside0.mk (Kd.R_drew HO134.out)
                            have n1_ := Aside0.mk (below_drew1 HB.out)
                            clear HO134
                            clear HB
                            have HO134 := n0_
                            have HB := n1_
                            clear n0_ n1_
                            obtain ⟨i079, hi079, _, hsz79, _⟩ := info_parts info5
                            obtain ⟨A79, hcut79, hA79, hC79⟩ := print_mid_of (P := Tryd.prog) (Value.int .u8) 0 22 5 .i64 .i64 Tryd.underlying22 hi079 hsz79 A0 c0 l0 x8_1 (wrap64 (x8_1 + (ji71))) (of_decide_eq_true (by first | (with_reducible assumption) | assumption)) (by first | omega | exact of_decide_eq_true (by first | (with_reducible assumption) | assumption)) (of_decide_eq_true (by first | (with_reducible assumption) | assumption)) HC0.out
                            have HR152 := Aside0.mk (Kd.C_of_reads (h1 := fun _ => rfl) (hA79 _ (Kd.reads_of_C HR0.out)))
                            have HC152 := Aside0.mk hC79
                            clear hA79 hC79 hi079 hsz79
                            refine start_ (n := 14) (S := fun w' => True) (ds := []) #[false, false, false, false, false, false, false, false, false, false, false, false, false, false] (by kernel_rfl) rfl rfl trivial (fun hHeld => ?_); refine with_tabW spec_Run.tab13 spec_Run.bits13 (fun HT_ HW_ => ?_)
                            generalize w77.drew = w78 at HO134 HB HR152 hHeld ⊢
                            refine pure_ (i := 0) (N := some 72) (v := ?_) (a' := ?_) #[true, false, false, false, false, false, false, false, false, false, false, false, false, false] rfl rfl (any_of HT_.out (by kernel_rfl)) (fun _ _ _ h => h) (Or.inl ⟨by rfl, ?_⟩) ?_ ?_
                            rotate_left
                            · intro w'
                              go_simp
                              with_reducible rfl
                            rotate_left
                            · simp only [Act.put, List.setIfInBounds_toArray, List.set_cons_zero, List.set_cons_succ, i64_w, i32_w]
                              rfl
                            refine pure_ (i := 1) (N := some 73) (v := ?_) (a' := ?_) #[true, true, false, false, false, false, false, false, false, false, false, false, false, false] rfl rfl (any_of HT_.out (by kernel_rfl)) (fun _ _ _ h => h) (Or.inl ⟨by rfl, ?_⟩) ?_ ?_
                            rotate_left
                            · intro w'
                              go_simp
                              with_reducible rfl
                            rotate_left
                            · simp only [Act.put, List.setIfInBounds_toArray, List.set_cons_zero, List.set_cons_succ, i64_w, i32_w]
                              rfl
                            refine pure_ (i := 2) (N := some 74) (v := ?_) (a' := ?_) #[true, true, true, false, false, false, false, false, false, false, false, false, false, false] rfl rfl (any_of HT_.out (by kernel_rfl)) (fun _ _ _ h => h) (Or.inl ⟨by rfl, ?_⟩) ?_ ?_
                            rotate_left
                            · intro w'
                              go_simp
                              with_reducible rfl
                            rotate_left
                            · simp only [Act.put, List.setIfInBounds_toArray, List.set_cons_zero, List.set_cons_succ, i64_w, i32_w]
                              rfl
                            refine pure_ (i := 3) (N := some 75) (v := ?_) (a' := ?_) #[true, true, true, true, false, false, false, false, false, false, false, false, false, false] rfl rfl (any_of HT_.out (by kernel_rfl)) (fun _ _ _ h => h) (Or.inl ⟨by rfl, ?_⟩) ?_ ?_
                            rotate_left
                            · intro w'
                              go_simp
                              with_reducible rfl
                            rotate_left
                            · simp only [Act.put, List.setIfInBounds_toArray, List.set_cons_zero, List.set_cons_succ, i64_w, i32_w]
                              rfl
                            refine pure_ (i := 6) (N := some 78) (v := ?_) (a' := ?_) #[true, true, true, true, false, false, true, false, false, false, false, false, false, false] rfl rfl (any_of HT_.out (by kernel_rfl)) (fun _ _ _ h => h) (Or.inl ⟨by rfl, ?_⟩) ?_ ?_
                            rotate_left
                            · intro w'
                              go_simp
                              with_reducible rfl
                            rotate_left
                            · simp only [Act.put, List.setIfInBounds_toArray, List.set_cons_zero, List.set_cons_succ, i64_w, i32_w]
                              rfl
                            refine pure_ (i := 7) (N := some 79) (v := ?_) (a' := ?_) #[true, true, true, true, false, false, true, true, false, false, false, false, false, false] rfl rfl (any_of HT_.out (by kernel_rfl)) (fun _ _ _ h => h) (Or.inl ⟨by rfl, ?_⟩) ?_ ?_
                            rotate_left
                            · intro w'
                              go_simp
                              with_reducible rfl
                            rotate_left
                            · simp only [Act.put, List.setIfInBounds_toArray, List.set_cons_zero, List.set_cons_succ, i64_w, i32_w]
                              rfl
                            refine pure_ (i := 8) (N := some 80) (v := ?_) (a' := ?_) #[true, true, true, true, false, false, true, true, true, false, false, false, false, false] rfl rfl (any_of HT_.out (by kernel_rfl)) (fun _ _ _ h => h) (Or.inl ⟨by rfl, ?_⟩) ?_ ?_
                            rotate_left
                            · intro w'
                              go_simp
                              with_reducible rfl
                            rotate_left
                            · simp only [Act.put, List.setIfInBounds_toArray, List.set_cons_zero, List.set_cons_succ, i64_w, i32_w]
                              rfl
                            refine pure_ (i := 9) (N := some 81) (v := ?_) (a' := ?_) #[true, true, true, true, false, false, true, true, true, true, false, false, false, false] rfl rfl (any_of HT_.out (by kernel_rfl)) (fun _ _ _ h => h) (Or.inl ⟨by rfl, ?_⟩) ?_ ?_
                            rotate_left
                            · intro w'
                              go_simp
                              with_reducible rfl
                            rotate_left
                            · simp only [Act.put, List.setIfInBounds_toArray, List.set_cons_zero, List.set_cons_succ, i64_w, i32_w]
                              rfl
                            refine pure_ (i := 10) (N := some 82) (v := ?_) (a' := ?_) #[true, true, true, true, false, false, true, true, true, true, true, false, false, false] rfl rfl (any_of HT_.out (by kernel_rfl)) (fun _ _ _ h => h) (Or.inl ⟨by rfl, ?_⟩) ?_ ?_
                            rotate_left
                            · intro w'
                              go_simp
                              with_reducible rfl
                            rotate_left
                            · simp only [Act.put, List.setIfInBounds_toArray, List.set_cons_zero, List.set_cons_succ, i64_w, i32_w]
                              rfl
                            refine pure_ (i := 11) (N := some 83) (v := ?_) (a' := ?_) #[true, true, true, true, false, false, true, true, true, true, true, true, false, false] rfl rfl (any_of HT_.out (by kernel_rfl)) (fun _ _ _ h => h) (Or.inl ⟨by rfl, ?_⟩) ?_ ?_
                            rotate_left
                            · intro w'
                              go_simp
                              with_reducible rfl
                            rotate_left
                            · simp only [Act.put, List.setIfInBounds_toArray, List.set_cons_zero, List.set_cons_succ, i64_w, i32_w]
                              rfl
                            refine one_ (i := 4) (N := some 76) #[true, true, true, true, true, false, true, true, true, true, true, true, false, false] rfl rfl (one_of HT_.out (by kernel_rfl)) (by decide) (fun K hK => ?_)
                            refine value_ (w1 := ?_) (v := ?_) (by rfl) rfl ?_ ?_
                            rotate_left 2
                            · go_simp
                              constructor
                              · rfl
                              · rfl
                            refine hK.out _ _ trivial (fun hHeld => ?_)
                            clear hK K
                            refine norm_ (a' := ?_) ?_ ?_
                            rotate_left
                            · show Act.put _ (some 76) _ = _
                              simp only [Act.put, List.setIfInBounds_toArray, List.set_cons_zero, List.set_cons_succ, i64_w, i32_w]
                              rfl
                            refine one_ (i := 5) (N := some 77) #[true, true, true, true, true, true, true, true, true, true, true, true, false, false] rfl rfl (one_of HT_.out (by kernel_rfl)) (by decide) (fun K hK => ?_)
                            refine Kd.R_append_step (Kd.int .u8) (w0 := w) w.heap.size (by rfl) (.tmp 72) (.tmp 76) 22 5 (.int .u8 0) 1 rfl Tryd.underlying22 info5 rfl (by decide) (by omega) v133 y132 ((wrap64 ((ji71) - 1)) % 256) [.int .u8 ((wrap64 ((ji71) - 1)) % 256)] (fun _ => True) (fun _ => False) rfl rfl ?aP (fun _ hk => hk.elim) ?aF ?aO ?aB ?aS ?aL ?_
                            (case aP => exact rfl)
                            (case aB => exact (by repeat (first | (with_reducible first | exact HB.out | apply below_alloc | apply pw_below_drewN | apply below_drew1) | exact HB.out)))
                            (case aF => exact (fun _ _ => trivial))
                            (case aO => exact (by (with_reducible repeat (first | apply Kd.R_alloc | apply Kd.R_drewN | apply Kd.R_drew)); exact HO134.out))
                            (case aS => exact (below_size (by repeat (first | (with_reducible first | exact HB.out | apply below_alloc | apply pw_below_drewN | apply below_drew1) | exact HB.out))))
                            (case aL => have := LMc72.out; omega)
                            intro v150 w80 ho hb hg hat
                            rw [← Ny149.out] at ho
                            have n0_ := Aside0.mk (hb)
                            have n1_ := Aside0.mk (ho)
                            clear HB
                            clear HO134
                            have HB := n0_
                            have HO151 := n1_
                            clear n0_ n1_
                            clear ho hb hg hat
                            refine hK.out _ _ trivial (fun hHeld => ?_)
                            clear hK K
                            refine norm_ (a' := ?_) ?_ ?_
                            rotate_left
                            · show Act.put _ (some 77) _ = _
                              simp only [Act.put, List.setIfInBounds_toArray, List.set_cons_zero, List.set_cons_succ, i64_w, i32_w]
                              rfl
                            refine one_ (i := 12) (N := some 84) #[true, true, true, true, true, true, true, true, true, true, true, true, true, false] rfl rfl (one_of HT_.out (by kernel_rfl)) (by decide) (fun K hK => ?_)
                            refine Kd.R_append_rows_step (Kd.int .u8) (w0 := w) w.heap.size (by rfl) (.tmp 77) (.tmp 83) 22 5 (.int .u8 0) 1 rfl Tryd.underlying22 info5 rfl (by decide) (by omega) v150 y149 ((l0.take ((wrap64 (x8_1 + (ji71))) : Int).toNat).drop (x8_1 : Int).toNat) _ _ _ (fun _ => True) (fun _ => False) rfl rfl ?aO ?aR (fun _ _ h => h) (fun _ h => h.elim) ?aF ?aB ?aS ?aL ?_
                            (case aR => first | (rw [← show ((l0.take ((wrap64 (x8_1 + (ji71))) : Int).toNat).drop (x8_1 : Int).toNat).length = ((wrap64 (x8_1 + (ji71))).toNat - x8_1.toNat) from (by rw [List.length_drop, List.length_take]; have h_ : ((wrap64 (x8_1 + (ji71))) : Int) ≤ (l0.length : Int) := of_decide_eq_true (by first | (with_reducible assumption) | assumption); omega)]; repeat (first | exact (Kd.C_below HR152.out HB.out) | (with_reducible refine Kd.C_alloc ?_ _) | (with_reducible refine Kd.C_drewN ?_ _) | (with_reducible refine Kd.C_drew ?_))) | (repeat (first | exact (Kd.C_below HR152.out HB.out) | (with_reducible refine Kd.C_alloc ?_ _) | (with_reducible refine Kd.C_drewN ?_ _) | (with_reducible refine Kd.C_drew ?_))))
                            (case aB => exact (by repeat (first | (with_reducible first | exact HB.out | apply below_alloc | apply pw_below_drewN | apply below_drew1) | exact HB.out)))
                            (case aF => exact (fun _ _ => trivial))
                            (case aO => exact (by (with_reducible repeat (first | apply Kd.R_alloc | apply Kd.R_drewN | apply Kd.R_drew)); exact HO151.out))
                            (case aS => exact (below_size (by repeat (first | (with_reducible first | exact HB.out | apply below_alloc | apply pw_below_drewN | apply below_drew1) | exact HB.out))))
                            (case aL => have := LMc76.out; have hlx_ := (show ((l0.take ((wrap64 (x8_1 + (ji71))) : Int).toNat).drop (x8_1 : Int).toNat).length = ((wrap64 (x8_1 + (ji71))).toNat - x8_1.toNat) from (by rw [List.length_drop, List.length_take]; have h_ : ((wrap64 (x8_1 + (ji71))) : Int) ≤ (l0.length : Int) := of_decide_eq_true (by first | (with_reducible assumption) | assumption); omega)); omega)
                            intro v154 w81 ho hb hg hat
                            rw [← Ny153.out] at ho
                            have n0_ := Aside0.mk (hb)
                            have n1_ := Aside0.mk (ho)
                            clear HB
                            clear HO151
                            have HB := n0_
                            have HO155 := n1_
                            clear n0_ n1_
                            clear ho hb hg hat
                            refine hK.out _ _ trivial (fun hHeld => ?_)
                            clear hK K
                            refine norm_ (a' := ?_) ?_ ?_
                            rotate_left
                            · show Act.put _ (some 84) _ = _
                              simp only [Act.put, List.setIfInBounds_toArray, List.set_cons_zero, List.set_cons_succ, i64_w, i32_w]
                              rfl
                            refine pure_ (i := 13) (N := some 7) (v := ?_) (a' := ?_) #[true, true, true, true, true, true, true, true, true, true, true, true, true, true] rfl rfl (any_of HT_.out (by kernel_rfl)) (fun _ _ _ h => h) (Or.inl ⟨by rfl, ?_⟩) ?_ ?_
                            rotate_left
                            · intro w'
                              go_simp
                              with_reducible rfl
                            rotate_left
                            · simp only [Act.put, List.setIfInBounds_toArray, List.set_cons_zero, List.set_cons_succ, i64_w, i32_w]
                              rfl
                            refine done_ (done_of HT_.out (by kernel_rfl)) ?_
                            try go_wp2
                            go_roundg kj6
                            case measure => have := HK1.out; have := HJ6.out; omega
                            case rel => exact ⟨(y153), (wrap64 (x8_1 + (ji71))), (by first | rfl | (simp; done) | (simp only [← hji71] <;> (first | rfl | simp)) | (simp [*]; done)), H', ⟨by have := HK1.out; have := HJ6.out; omega⟩, ⟨by (with_reducible repeat (first | apply Kd.R_alloc | apply Kd.R_drewN | apply Kd.R_drew)); exact HO155.out⟩, ⟨by repeat (first | (with_reducible first | exact HB.out | apply below_alloc | apply pw_below_drewN | apply below_drew1) | exact HB.out)⟩⟩
                          · rw [if_neg c76] at H
                            exact absurd H (by simp)
                        · rw [if_neg c75] at H
                          exact absurd H (by simp)
                      · rw [if_neg c74] at H
                        exact absurd H (by simp)
                    · rw [if_neg c73] at H
                      exact absurd H (by simp)
                  · rw [if_neg c72] at H
                    exact absurd H (by simp)
              · rw [if_neg c49] at H
                exact absurd H (by simp)
      · rw [if_neg c6] at H
        have c6b0 : decide (x8_1 < (l0.length : Int)) = false := decide_eq_false c6
        clear c6
        obtain rfl := Option.some.inj H
        go_wp2
        go_ret
        exact ⟨_, by first | rfl | (simp [errW_none, errW_some] <;> rfl) | (simp [*, errW_none, errW_some] <;> rfl), by (with_reducible repeat (first | apply Kd.R_alloc | apply Kd.R_drewN | apply Kd.R_drew)); exact HO_7.out, by repeat (first | (with_reducible first | exact HB.out | apply below_alloc | apply pw_below_drewN | apply below_drew1) | exact HB.out)⟩

end Go.Proofs.YtloflgkidclhoaaDoor.PFnPackBitsBack
