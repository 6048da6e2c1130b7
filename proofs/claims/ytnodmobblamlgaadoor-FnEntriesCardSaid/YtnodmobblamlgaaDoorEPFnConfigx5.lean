/- Words that a printer of the kit wrote for this seat, cut down to what this proof uses. -/
import Derived.Test.YtnodmobblamlgaaDoorEPx01
namespace Go.Proofs.YtnodmobblamlgaaDoor.PFnConfig
open Go.RowKit Go.Proofs.YtnodmobblamlgaaDoorW.PrintWords Go.Proofs.YtnodmobblamlgaaDoorW.PrintLast Go.Proofs.YtnodmobblamlgaaDoorW.PrintMore
attribute [local go_sem] max2_int min2_int max_two min_two max_three min_three max_four min_four   -- for this text's walks alone
set_option linter.unusedVariables false
set_option linter.unusedSimpArgs false

/-! ### spec_Run: function 29 -/
mutual
def spec_Run.l0 : Nat → List Int → Int → Int → List Int → Int → Option (List Int)
  | 0, _, _, _, _, _ => none
  | k + 1, x0, x1, x2, x7, x8 => if x8 < (x0.length : Int) then (spec_Run.l1 k x0 x1 x2 x7 x8 1) else (some x7)
def spec_Run.j2 : Nat → List Int → Int → Int → List Int → Int → Int → Option (List Int)
  | 0, _, _, _, _, _, _ => none
  | k + 1, x0, x1, x2, x7, x8, x9 => if (Go.bits .and .i64 x2 2) = 0 then (if x9 > 1 then (if (Go.bits .and .i64 x2 1) = 0 then (if x7.length < 140737488355328 then ((some (x7 ++ [(wrap64 ((mn x1 (wrap64 ((x0.length : Int) - x8))) - 1)) % 256] : List Int)).bind fun y177 => (if 0 ≤ x8 then (if x8 ≤ (wrap64 (x8 + (mn x1 (wrap64 ((x0.length : Int) - x8))))) then (if (wrap64 (x8 + (mn x1 (wrap64 ((x0.length : Int) - x8))))) ≤ (x0.length : Int) then (if y177.length + ((x0.take ((wrap64 (x8 + (mn x1 (wrap64 ((x0.length : Int) - x8))))) : Int).toNat).drop (x8 : Int).toNat).length < 140737488355328 then (spec_Run.l0 k x0 x1 x2 (y177 ++ ((x0.take ((wrap64 (x8 + (mn x1 (wrap64 ((x0.length : Int) - x8))))) : Int).toNat).drop (x8 : Int).toNat)) (wrap64 (x8 + (mn x1 (wrap64 ((x0.length : Int) - x8)))))) else (none)) else (none)) else (none)) else (none))) else (none)) else (if 0 ≤ x8 then (if x8 < (x0.length : Int) then ((some (([(wrap64 (257 - x9)) % 256, rd x0 x8] : List Int) : List Int)).bind fun y185 => (if x7.length + y185.length < 140737488355328 then (spec_Run.l0 k x0 x1 x2 (x7 ++ y185) (wrap64 (x8 + x9))) else (none))) else (none)) else (none))) else (if x7.length < 140737488355328 then ((some (x7 ++ [(wrap64 ((mn x1 (wrap64 ((x0.length : Int) - x8))) - 1)) % 256] : List Int)).bind fun y191 => (if 0 ≤ x8 then (if x8 ≤ (wrap64 (x8 + (mn x1 (wrap64 ((x0.length : Int) - x8))))) then (if (wrap64 (x8 + (mn x1 (wrap64 ((x0.length : Int) - x8))))) ≤ (x0.length : Int) then (if y191.length + ((x0.take ((wrap64 (x8 + (mn x1 (wrap64 ((x0.length : Int) - x8))))) : Int).toNat).drop (x8 : Int).toNat).length < 140737488355328 then (spec_Run.l0 k x0 x1 x2 (y191 ++ ((x0.take ((wrap64 (x8 + (mn x1 (wrap64 ((x0.length : Int) - x8))))) : Int).toNat).drop (x8 : Int).toNat)) (wrap64 (x8 + (mn x1 (wrap64 ((x0.length : Int) - x8)))))) else (none)) else (none)) else (none)) else (none))) else (none))) else (if x7.length < 140737488355328 then ((some (x7 ++ [128] : List Int)).bind fun y198 => (if x9 > 1 then (if (Go.bits .and .i64 x2 1) = 0 then (if y198.length < 140737488355328 then ((some (y198 ++ [(wrap64 ((mn x1 (wrap64 ((x0.length : Int) - x8))) - 1)) % 256] : List Int)).bind fun y201 => (if 0 ≤ x8 then (if x8 ≤ (wrap64 (x8 + (mn x1 (wrap64 ((x0.length : Int) - x8))))) then (if (wrap64 (x8 + (mn x1 (wrap64 ((x0.length : Int) - x8))))) ≤ (x0.length : Int) then (if y201.length + ((x0.take ((wrap64 (x8 + (mn x1 (wrap64 ((x0.length : Int) - x8))))) : Int).toNat).drop (x8 : Int).toNat).length < 140737488355328 then (spec_Run.l0 k x0 x1 x2 (y201 ++ ((x0.take ((wrap64 (x8 + (mn x1 (wrap64 ((x0.length : Int) - x8))))) : Int).toNat).drop (x8 : Int).toNat)) (wrap64 (x8 + (mn x1 (wrap64 ((x0.length : Int) - x8)))))) else (none)) else (none)) else (none)) else (none))) else (none)) else (if 0 ≤ x8 then (if x8 < (x0.length : Int) then ((some (([(wrap64 (257 - x9)) % 256, rd x0 x8] : List Int) : List Int)).bind fun y209 => (if y198.length + y209.length < 140737488355328 then (spec_Run.l0 k x0 x1 x2 (y198 ++ y209) (wrap64 (x8 + x9))) else (none))) else (none)) else (none))) else (if y198.length < 140737488355328 then ((some (y198 ++ [(wrap64 ((mn x1 (wrap64 ((x0.length : Int) - x8))) - 1)) % 256] : List Int)).bind fun y215 => (if 0 ≤ x8 then (if x8 ≤ (wrap64 (x8 + (mn x1 (wrap64 ((x0.length : Int) - x8))))) then (if (wrap64 (x8 + (mn x1 (wrap64 ((x0.length : Int) - x8))))) ≤ (x0.length : Int) then (if y215.length + ((x0.take ((wrap64 (x8 + (mn x1 (wrap64 ((x0.length : Int) - x8))))) : Int).toNat).drop (x8 : Int).toNat).length < 140737488355328 then (spec_Run.l0 k x0 x1 x2 (y215 ++ ((x0.take ((wrap64 (x8 + (mn x1 (wrap64 ((x0.length : Int) - x8))))) : Int).toNat).drop (x8 : Int).toNat)) (wrap64 (x8 + (mn x1 (wrap64 ((x0.length : Int) - x8)))))) else (none)) else (none)) else (none)) else (none))) else (none)))) else (none))
def spec_Run.l1 : Nat → List Int → Int → Int → List Int → Int → Int → Option (List Int)
  | 0, _, _, _, _, _, _ => none
  | k + 1, x0, x1, x2, x7, x8, x9 => if (wrap64 (x8 + x9)) < (x0.length : Int) then (if 0 ≤ (wrap64 (x8 + x9)) then (if 0 ≤ x8 then (if x8 < (x0.length : Int) then (if (rd x0 (wrap64 (x8 + x9))) = (rd x0 x8) then (if x9 < 128 then (spec_Run.l1 k x0 x1 x2 x7 x8 (wrap64 (x9 + 1))) else (spec_Run.j2 k x0 x1 x2 x7 x8 x9)) else (spec_Run.j2 k x0 x1 x2 x7 x8 x9)) else (none)) else (none)) else (none)) else (spec_Run.j2 k x0 x1 x2 x7 x8 x9)
end
def spec_Run.f (k : Nat) (l0 : List Int) (a1 : Int) (a2 : Int) : Option (List Int) := spec_Run.l0 k l0 a1 a2 (([] : List Int)) 0
theorem spec_Run.mono_l : ∀ k, (∀ y0 y1 y2 y3 y4, LeO (spec_Run.l0 k y0 y1 y2 y3 y4) (spec_Run.l0 (k + 1) y0 y1 y2 y3 y4)) ∧ (∀ y0 y1 y2 y3 y4 y5, LeO (spec_Run.j2 k y0 y1 y2 y3 y4 y5) (spec_Run.j2 (k + 1) y0 y1 y2 y3 y4 y5)) ∧ (∀ y0 y1 y2 y3 y4 y5, LeO (spec_Run.l1 k y0 y1 y2 y3 y4 y5) (spec_Run.l1 (k + 1) y0 y1 y2 y3 y4 y5))
  | 0 => ⟨fun _ _ _ _ _ r h => by simp [spec_Run.l0] at h, fun _ _ _ _ _ _ r h => by simp [spec_Run.j2] at h, fun _ _ _ _ _ _ r h => by simp [spec_Run.l1] at h⟩
  | k + 1 => by
    obtain ⟨ih0, ih1, ih2⟩ := spec_Run.mono_l k
    refine ⟨?_, ?_, ?_⟩
    · intro y0 y1 y2 y3 y4
      unfold spec_Run.l0
      repeat' first
      | (with_reducible exact ih0 _ _ _ _ _)
      | (with_reducible exact ih1 _ _ _ _ _ _)
      | (with_reducible exact ih2 _ _ _ _ _ _)
      | (with_reducible exact LeO.refl _)
      | (with_reducible exact LeO.none _)
      | (with_reducible refine LeO.ite ?_ ?_)
      | (with_reducible refine LeO.bind ?_ (fun _ => ?_))
      | exact ih0 _ _ _ _ _
      | exact ih1 _ _ _ _ _ _
      | exact ih2 _ _ _ _ _ _
      | exact LeO.none _
      | refine LeO.ite ?_ ?_
      | refine LeO.bind ?_ (fun _ => ?_)
    · intro y0 y1 y2 y3 y4 y5
      unfold spec_Run.j2
      repeat' first
      | (with_reducible exact ih0 _ _ _ _ _)
      | (with_reducible exact ih1 _ _ _ _ _ _)
      | (with_reducible exact ih2 _ _ _ _ _ _)
      | (with_reducible exact LeO.refl _)
      | (with_reducible exact LeO.none _)
      | (with_reducible refine LeO.ite ?_ ?_)
      | (with_reducible refine LeO.bind ?_ (fun _ => ?_))
      | exact ih0 _ _ _ _ _
      | exact ih1 _ _ _ _ _ _
      | exact ih2 _ _ _ _ _ _
      | exact LeO.none _
      | refine LeO.ite ?_ ?_
      | refine LeO.bind ?_ (fun _ => ?_)
    · intro y0 y1 y2 y3 y4 y5
      unfold spec_Run.l1
      repeat' first
      | (with_reducible exact ih0 _ _ _ _ _)
      | (with_reducible exact ih1 _ _ _ _ _ _)
      | (with_reducible exact ih2 _ _ _ _ _ _)
      | (with_reducible exact LeO.refl _)
      | (with_reducible exact LeO.none _)
      | (with_reducible refine LeO.ite ?_ ?_)
      | (with_reducible refine LeO.bind ?_ (fun _ => ?_))
      | exact ih0 _ _ _ _ _
      | exact ih1 _ _ _ _ _ _
      | exact ih2 _ _ _ _ _ _
      | exact LeO.none _
      | refine LeO.ite ?_ ?_
      | refine LeO.bind ?_ (fun _ => ?_)
theorem spec_Run.mono : ∀ a0 a1 a2 k, LeO (spec_Run.f k a0 a1 a2) (spec_Run.f (k + 1) a0 a1 a2) := by
  intro a0 a1 a2 k
  obtain ⟨ih0, ih1, ih2⟩ := spec_Run.mono_l k
  unfold spec_Run.f
  repeat' first
      | (with_reducible exact ih0 _ _ _ _ _)
      | (with_reducible exact ih1 _ _ _ _ _ _)
      | (with_reducible exact ih2 _ _ _ _ _ _)
      | (with_reducible exact LeO.refl _)
      | (with_reducible exact LeO.none _)
      | (with_reducible refine LeO.ite ?_ ?_)
      | (with_reducible refine LeO.bind ?_ (fun _ => ?_))
      | exact ih0 _ _ _ _ _
      | exact ih1 _ _ _ _ _ _
      | exact ih2 _ _ _ _ _ _
      | exact LeO.none _
      | refine LeO.ite ?_ ?_
      | refine LeO.bind ?_ (fun _ => ?_)
def spec_Run.T5 : Bool × List (List Nat × List Nat) := (true, [([], []), ([], []), ([0, 1], [0, 1]), ([], []), ([3], [3]), ([2, 4], [2, 4]), ([5], [5]), ([6], [6]), ([6], [6]), ([6], [6]), ([8, 9, 6], [6, 8, 9]), ([7, 10, 6], [6, 7, 10]), ([11, 6], [6, 11]), ([6], [6]), ([6], [6]), ([13, 14, 6], [6, 13, 14]), ([15, 6], [6, 15]), ([12, 16, 6], [6, 12, 16]), ([6, 17], [6, 17]), ([18, 6], [18]), ([19], [19]), ([20, 19], [19, 20]), ([19, 21], [19, 21])])
def spec_Run.B5 : List Nat := [0, 0, 3, 0, 8, 31, 63, 127, 127, 127, 895, 2047, 4095, 127, 127, 24703, 57471, 131071, 262143, 524287, 1048575, 2097151, 4194303]
theorem spec_Run.tab5 : rtab .any (opsOf Tryd.f29 5) = spec_Run.T5 := by kernel_rfl
theorem spec_Run.bits5 : waitsOk spec_Run.T5.2 spec_Run.B5 = true := by kernel_rfl
def spec_Run.T13 : Bool × List (List Nat × List Nat) := (true, [([], []), ([], []), ([1], [1]), ([2], [2]), ([3], [3]), ([0, 4], [0, 4]), ([], []), ([], []), ([], []), ([], []), ([8, 9], [8, 9]), ([6, 7, 10], [6, 7, 10]), ([5, 11, 5], [5, 11]), ([12, 12, 0, 1, 2, 3, 4, 5, 6, 7, 8, 9, 10, 11, 12], [0, 12])])
def spec_Run.B13 : List Nat := [0, 0, 2, 6, 14, 31, 0, 0, 0, 0, 768, 1984, 4095, 8191]
theorem spec_Run.tab13 : rtab .any (opsOf Tryd.f29 13) = spec_Run.T13 := by kernel_rfl
theorem spec_Run.bits13 : waitsOk spec_Run.T13.2 spec_Run.B13 = true := by kernel_rfl
set_option maxHeartbeats 8000000 in
set_option maxRecDepth 100000 in
theorem spec_Run.calls (k : Nat) (A0 : Option Addr) (c0 : Nat) (l0 : List Int) (a1 : Int) (a2 : Int) (r : List Int) (w : World) (hr0 : Kd.C (Kd.int .u8) w A0 l0.length l0) (hc0 : l0.length ≤ c0) (h : spec_Run.f k l0 a1 a2 = some r) :
    Calls Tryd.prog 29 #[.slice A0 l0.length c0, .int .i64 a1, .int .i64 a2] w fun e w' => ∃ v0_ : Value, e = .returned (v0_) ∧ Kd.R (Kd.int .u8) 5 w' w.heap.size (fun _ => True) v0_ r ∧ Below w.heap.size w w' := by
  have HR0 := Aside0.mk hr0
  have HC0 := Aside0.mk hc0
  clear hr0 hc0
  have HB := Aside0.mk (Below.refl w.heap.size w)
  have H : (spec_Run.l0 k l0 a1 a2 (([] : List Int)) 0) = some r := h
  clear h
  obtain ⟨y172, hy172⟩ : ∃ y_ : List Int, y_ = (([] : List Int)) := ⟨_, rfl⟩
  replace H : (spec_Run.l0 k l0 a1 a2 y172 0) = some r := by first | (rw [hy172]; with_reducible exact H) | (have H2_ := (Option.bind_some _ _).symm.trans H; rw [hy172]; with_reducible exact H2_) | (have H2_ := (Option.bind_some _ _).symm.trans H; with_reducible exact H2_) | with_reducible exact H | (rw [hy172]; exact H) | exact H
  have Ny172 := Aside0.mk hy172
  clear hy172
  have H' := Aside0.mk H
  clear H
  go_enter Tryd.func29, Tryd.ntmps29
  go_wp2_with (first | ((with_reducible refine gate_dst (N := 10) rfl ?_); refine Kd.R_lit (Kd.int .u8) _ 5 ?hg (N := 10) ?hd (xs := ([] : List Int)) (inner := []) (ok := fun _ => True) (okp := fun _ => True) ?hr ?hp (fun _ hk => hk) trivial (Below.refl _ _) (Nat.le_refl _) (by simp) ?_; (case hd => rfl); (case hg => rfl); (case hr => first | (go_simp; done) | (go_simp; rfl)); (case hp => exact (Reps.none _ _)); intro v173 w4 ho5 hb hg_ hnew_; clear hg_ hnew_; (first | rw [← Ny172.out] at ho5 | (simp only [Int.reduceToNat] at ho5; rw [← Ny172.out] at ho5)); have n0_ := Aside0.mk (Kd.R_lower ho5 (below_size (by repeat (first | (with_reducible first | exact HB.out | apply below_alloc | apply pw_below_drewN | apply below_drew1) | exact HB.out)))); have n1_ := Aside0.mk (below_step (by repeat (first | (with_reducible first | exact HB.out | apply below_alloc | apply pw_below_drewN | apply below_drew1) | exact HB.out)) hb); clear HB; have HO174 := n0_; have HB := n1_; clear n0_ n1_; clear hb ho5))
  go_loopg [7, 8] k (fun kq v7 v8 w' => ∃ (x7_1 : List Int) (x8_1 : Int), v8 = .int .i64 x8_1 ∧ Aside0 (spec_Run.l0 kq l0 a1 a2 x7_1 x8_1 = some r) ∧ Aside0 (kq ≤ k) ∧ Aside0 (Kd.R (Kd.int .u8) 5 w' w.heap.size (fun _ => True) v7 x7_1) ∧ Aside0 (Below w.heap.size w w'))
  case atStart => exact ⟨(y172), (0), (by first | rfl | (simp; done) | (simp [*]; done)), H', ⟨Nat.le_refl _⟩, ⟨by (with_reducible repeat (first | apply Kd.R_alloc | apply Kd.R_drewN | apply Kd.R_drew)); exact HO174.out⟩, ⟨by repeat (first | (with_reducible first | exact HB.out | apply below_alloc | apply pw_below_drewN | apply below_drew1) | exact HB.out)⟩⟩
  case round =>
    clear H'
    try clear c2
    try clear p2
    obtain ⟨x7_1, x8_1, rfl, HA, HK1, HO_7, HB⟩ := hrel
    cases gk with
    | zero => exact absurd HA.out (by simp [spec_Run.l0])
    | succ k1 =>
      have H := HA.out
      clear HA
      simp only [spec_Run.l0] at H
      by_cases c6 : x8_1 < (l0.length : Int)
      · rw [if_pos c6] at H
        have c6b0 : decide (x8_1 < (l0.length : Int)) = true := decide_eq_true c6
        clear c6
        have HC7 := Aside0.mk H
        clear H
        go_upto_block 2 with (fail)
        go_cut [9] (fun v9 wc => ∃ (kq : Nat) (x9_6 : Int), v9 = .int .i64 x9_6 ∧ Aside0 (spec_Run.j2 kq l0 a1 a2 x7_1 x8_1 x9_6 = some r) ∧ Aside0 (kq ≤ k1) ∧ Aside0 (Kd.R (Kd.int .u8) 5 wc w.heap.size (fun _ => True) u7 x7_1) ∧ Aside0 (Below w.heap.size w wc))
        case first =>
          have H := HC7.out
          clear HC7
          have H' := Aside0.mk H
          clear H
          go_wp2
          go_loopg [9] k1 (fun kq v9 w' => ∃ (x9_2 : Int), v9 = .int .i64 x9_2 ∧ Aside0 (spec_Run.l1 kq l0 a1 a2 x7_1 x8_1 x9_2 = some r) ∧ Aside0 (kq ≤ k1) ∧ Aside0 (Kd.R (Kd.int .u8) 5 w' w.heap.size (fun _ => True) u7 x7_1) ∧ Aside0 (Below w.heap.size w w'))
          case atStart => exact ⟨(1), (by first | rfl | (simp; done) | (simp [*]; done)), H', ⟨Nat.le_refl _⟩, ⟨by (with_reducible repeat (first | apply Kd.R_alloc | apply Kd.R_drewN | apply Kd.R_drew)); exact HO_7.out⟩, ⟨by repeat (first | (with_reducible first | exact HB.out | apply below_alloc | apply pw_below_drewN | apply below_drew1) | exact HB.out)⟩⟩
          case round =>
            clear H'
            try clear c2
            try clear p2
            try clear c6
            try clear c6b0
            try clear p2
            obtain ⟨x9_2, rfl, HA, HK2, HO_7, HB⟩ := hrel
            cases gk with
            | zero => exact absurd HA.out (by simp [spec_Run.l1])
            | succ k2 =>
              have H := HA.out
              clear HA
              simp only [spec_Run.l1] at H
              by_cases c8 : (wrap64 (x8_1 + x9_2)) < (l0.length : Int)
              · rw [if_pos c8] at H
                have c8b0 : decide ((wrap64 (x8_1 + x9_2)) < (l0.length : Int)) = true := decide_eq_true c8
                clear c8
                (first | rw [c8b0] | (simp only [i64_w, i32_w]; rw [c8b0]) | skip)
                obtain ⟨ji9, hji9⟩ : ∃ j_ : Int, (wrap64 (x8_1 + x9_2)) = j_ := ⟨_, rfl⟩
                replace H : (if 0 ≤ (ji9) then (if 0 ≤ x8_1 then (if x8_1 < (l0.length : Int) then (if (rd l0 (ji9)) = (rd l0 x8_1) then (if x9_2 < 128 then (spec_Run.l1 k2 l0 a1 a2 x7_1 x8_1 (wrap64 (x9_2 + 1))) else (spec_Run.j2 k2 l0 a1 a2 x7_1 x8_1 x9_2)) else (spec_Run.j2 k2 l0 a1 a2 x7_1 x8_1 x9_2)) else (none)) else (none)) else (none)) = some r := by first | (rw [hji9] at H; exact H) | (simp only [hji9] at H ⊢; exact H)
                (try rw [hji9] at c8b0)
                have hji9w : (IntKind.i64.wrap (x8_1 + x9_2)) = ji9 := (i64_w _).trans hji9
                by_cases c10 : 0 ≤ (ji9)
                · rw [if_pos c10] at H
                  have c10b0 : decide (0 ≤ (ji9)) = true := decide_eq_true c10
                  clear c10
                  by_cases c11 : 0 ≤ x8_1
                  · rw [if_pos c11] at H
                    have c11b0 : decide (0 ≤ x8_1) = true := decide_eq_true c11
                    clear c11
                    by_cases c12 : x8_1 < (l0.length : Int)
                    · rw [if_pos c12] at H
                      have c12b0 : decide (x8_1 < (l0.length : Int)) = true := decide_eq_true c12
                      clear c12
                      by_cases c13 : (rd l0 (ji9)) = (rd l0 x8_1)
                      · rw [if_pos c13] at H
                        have c13b0 : ((rd l0 (ji9)) == (rd l0 x8_1)) = true := beq_iff_eq.mpr c13
                        have c13b1 : ((rd l0 (ji9)) != (rd l0 x8_1)) = false := bne_eq_false_iff_eq.mpr c13
                        clear c13
                        by_cases c14 : x9_2 < 128
                        · rw [if_pos c14] at H
                          have c14b0 : decide (x9_2 < 128) = true := decide_eq_true c14
                          clear c14
                          have H' := Aside0.mk H
                          clear H
                          try go_wp2
                          have n0_ := Aside0.mk (Kd.R_drew HO_7.out)
                          have n1_ := Aside0.mk (below_drew1 HB.out)
                          clear HO_7
                          clear HB
                          have HO_7 := n0_
                          have HB := n1_
                          clear n0_ n1_
                          have p175 : 0 ≤ ((ji9) : Int) := of_decide_eq_true (by first | (with_reducible assumption) | assumption)
                          have q175 : (ji9) < (l0.length : Int) := of_decide_eq_true (by first | (with_reducible assumption) | assumption)
                          obtain ⟨ad175, e175, hx175_0⟩ := Kd.at_int HR0.out (ji9) p175 q175
                          have hw175_0 := hx175_0
                          cases e175
                          replace hx175_0 := (HB.out.cell (World.block_lt_of_cell? w _ hx175_0)).trans hx175_0
                          replace p175 := eq_true p175
                          replace q175 := eq_true q175
                          have p176 : 0 ≤ (x8_1 : Int) := of_decide_eq_true (by first | (with_reducible assumption) | assumption)
                          have q176 : x8_1 < (l0.length : Int) := of_decide_eq_true (by first | (with_reducible assumption) | assumption)
                          obtain ⟨ad176, e176, hx176_0⟩ := Kd.at_int HR0.out x8_1 p176 q176
                          have hw176_0 := hx176_0
                          obtain rfl : ad175 = ad176 := (by injection e176)
                          replace hx176_0 := (HB.out.cell (World.block_lt_of_cell? w _ hx176_0)).trans hx176_0
                          replace p176 := eq_true p176
                          replace q176 := eq_true q176
                          refine start_ (n := 23) (S := fun w' => w'.cell? (ad175.add ((ji9)).toNat) = some (.int .u8 (rd l0 (ji9))) ∧ w'.cell? (ad175.add (x8_1).toNat) = some (.int .u8 (rd l0 x8_1))) (ds := []) #[false, false, false, false, false, false, false, false, false, false, false, false, false, false, false, false, false, false, false, false, false, false, false] (by kernel_rfl) rfl rfl ⟨((HB.out.cell (World.block_lt_of_cell? w _ hw175_0)).trans hw175_0), ((HB.out.cell (World.block_lt_of_cell? w _ hw176_0)).trans hw176_0)⟩ (fun hHeld => ?_); refine with_tabW spec_Run.tab5 spec_Run.bits5 (fun HT_ HW_ => ?_)
                          generalize wr.drew = w15 at HO_7 HB hx175_0 hx176_0 hHeld ⊢
                          refine pure_ (i := 0) (N := some 15) (v := ?_) (a' := ?_) #[true, false, false, false, false, false, false, false, false, false, false, false, false, false, false, false, false, false, false, false, false, false, false] rfl rfl (any_of HT_.out (by kernel_rfl)) (fun _ _ _ h => h) (Or.inl ⟨by rfl, ?_⟩) ?_ ?_
                          rotate_left
                          · intro w'
                            go_simp
                            with_reducible rfl
                          rotate_left
                          · simp only [Act.put, List.setIfInBounds_toArray, List.set_cons_zero, List.set_cons_succ, i64_w, i32_w]
                            rfl
                          refine pure_ (i := 1) (N := some 16) (v := ?_) (a' := ?_) #[true, true, false, false, false, false, false, false, false, false, false, false, false, false, false, false, false, false, false, false, false, false, false] rfl rfl (any_of HT_.out (by kernel_rfl)) (fun _ _ _ h => h) (Or.inl ⟨by rfl, ?_⟩) ?_ ?_
                          rotate_left
                          · intro w'
                            go_simp
                            with_reducible rfl
                          rotate_left
                          · simp only [Act.put, List.setIfInBounds_toArray, List.set_cons_zero, List.set_cons_succ, i64_w, i32_w]
                            rfl
                          refine pure_ (i := 2) (N := some 17) (v := ?_) (a' := ?_) #[true, true, true, false, false, false, false, false, false, false, false, false, false, false, false, false, false, false, false, false, false, false, false] rfl rfl (any_of HT_.out (by kernel_rfl)) (fun _ _ _ h => h) (Or.inl ⟨by rfl, ?_⟩) ?_ ?_
                          rotate_left
                          · intro w'
                            go_simp
                            with_reducible rfl
                          rotate_left
                          · simp only [Act.put, List.setIfInBounds_toArray, List.set_cons_zero, List.set_cons_succ, i64_w, i32_w]
                            rfl
                          refine pure_ (i := 3) (N := some 18) (v := ?_) (a' := ?_) #[true, true, true, true, false, false, false, false, false, false, false, false, false, false, false, false, false, false, false, false, false, false, false] rfl rfl (any_of HT_.out (by kernel_rfl)) (fun _ _ _ h => h) (Or.inl ⟨by rfl, ?_⟩) ?_ ?_
                          rotate_left
                          · intro w'
                            go_simp
                            with_reducible rfl
                          rotate_left
                          · simp only [Act.put, List.setIfInBounds_toArray, List.set_cons_zero, List.set_cons_succ, i64_w, i32_w]
                            rfl
                          refine pure_ (i := 4) (N := some 19) (v := ?_) (a' := ?_) #[true, true, true, true, true, false, false, false, false, false, false, false, false, false, false, false, false, false, false, false, false, false, false] rfl rfl (any_of HT_.out (by kernel_rfl)) (fun _ _ _ h => h) (Or.inl ⟨by rfl, ?_⟩) ?_ ?_
                          rotate_left
                          · intro w'
                            go_simp
                            with_reducible rfl
                          rotate_left
                          · simp only [Act.put, List.setIfInBounds_toArray, List.set_cons_zero, List.set_cons_succ, i64_w, i32_w]
                            rfl
                          refine pure_ (i := 5) (N := some 20) (v := ?_) (a' := ?_) #[true, true, true, true, true, true, false, false, false, false, false, false, false, false, false, false, false, false, false, false, false, false, false] rfl rfl (any_of HT_.out (by kernel_rfl)) (fun _ _ _ h => h) (Or.inl ⟨by rfl, ?_⟩) ?_ ?_
                          rotate_left
                          · intro w'
                            go_simp
                            with_reducible rfl
                          rotate_left
                          · simp only [Act.put, List.setIfInBounds_toArray, List.set_cons_zero, List.set_cons_succ, i64_w, i32_w]
                            rfl
                          refine pure_ (i := 6) (N := some 21) (v := ?_) (a' := ?_) #[true, true, true, true, true, true, true, false, false, false, false, false, false, false, false, false, false, false, false, false, false, false, false] rfl rfl (any_of HT_.out (by kernel_rfl)) (fun _ _ _ h => h) (Or.inl ⟨by rfl, ?_⟩) ?_ ?_
                          rotate_left
                          · intro w'
                            go_simp
                            with_reducible rfl
                          rotate_left
                          · simp only [Act.put, List.setIfInBounds_toArray, List.set_cons_zero, List.set_cons_succ, i64_w, i32_w]
                            rfl
                          refine pure_ (i := 7) (N := some 22) (v := ?_) (a' := ?_) #[true, true, true, true, true, true, true, true, false, false, false, false, false, false, false, false, false, false, false, false, false, false, false] rfl rfl (any_of HT_.out (by kernel_rfl)) (fun _ _ _ h => h) (Or.inl ⟨by rfl, ?_⟩) ?_ ?_
                          rotate_left
                          · intro w'
                            go_simp
                            with_reducible rfl
                          rotate_left
                          · simp only [Act.put, List.setIfInBounds_toArray, List.set_cons_zero, List.set_cons_succ, i64_w, i32_w]
                            rfl
                          refine pure_ (i := 8) (N := some 23) (v := ?_) (a' := ?_) #[true, true, true, true, true, true, true, true, true, false, false, false, false, false, false, false, false, false, false, false, false, false, false] rfl rfl (any_of HT_.out (by kernel_rfl)) (fun _ _ _ h => h) (Or.inl ⟨by rfl, ?_⟩) ?_ ?_
                          rotate_left
                          · intro w'
                            go_simp
                            with_reducible rfl
                          rotate_left
                          · simp only [Act.put, List.setIfInBounds_toArray, List.set_cons_zero, List.set_cons_succ, i64_w, i32_w]
                            rfl
                          refine pure_ (i := 9) (N := some 24) (v := ?_) (a' := ?_) #[true, true, true, true, true, true, true, true, true, true, false, false, false, false, false, false, false, false, false, false, false, false, false] rfl rfl (any_of HT_.out (by kernel_rfl)) (fun _ _ _ h => h) (Or.inl ⟨by rfl, ?_⟩) ?_ ?_
                          rotate_left
                          · intro w'
                            go_simp
                            with_reducible rfl
                          rotate_left
                          · simp only [Act.put, List.setIfInBounds_toArray, List.set_cons_zero, List.set_cons_succ, i64_w, i32_w]
                            rfl
                          refine pure_ (i := 10) (N := some 25) (v := ?_) (a' := ?_) #[true, true, true, true, true, true, true, true, true, true, true, false, false, false, false, false, false, false, false, false, false, false, false] rfl rfl (any_of HT_.out (by kernel_rfl)) (fun _ _ _ h => h) (Or.inl ⟨by rfl, ?_⟩) ?_ ?_
                          rotate_left
                          · intro w'
                            go_simp
                            with_reducible rfl
                          rotate_left
                          · simp only [Act.put, List.setIfInBounds_toArray, List.set_cons_zero, List.set_cons_succ, i64_w, i32_w]
                            rfl
                          refine pure_ (i := 11) (N := some 26) (v := ?_) (a' := ?_) #[true, true, true, true, true, true, true, true, true, true, true, true, false, false, false, false, false, false, false, false, false, false, false] rfl rfl (any_of HT_.out (by kernel_rfl)) (fun _ _ _ h => h) (Or.inl ⟨by rfl, ?_⟩) ?_ ?_
                          rotate_left
                          · intro w'
                            go_simp
                            with_reducible rfl
                          rotate_left
                          · simp only [Act.put, List.setIfInBounds_toArray, List.set_cons_zero, List.set_cons_succ, i64_w, i32_w]
                            rfl
                          refine pure_ (i := 13) (N := some 28) (v := ?_) (a' := ?_) #[true, true, true, true, true, true, true, true, true, true, true, true, false, true, false, false, false, false, false, false, false, false, false] rfl rfl (any_of HT_.out (by kernel_rfl)) (fun _ _ _ h => h) (Or.inl ⟨by rfl, ?_⟩) ?_ ?_
                          rotate_left
                          · intro w'
                            go_simp
                            with_reducible rfl
                          rotate_left
                          · simp only [Act.put, List.setIfInBounds_toArray, List.set_cons_zero, List.set_cons_succ, i64_w, i32_w]
                            rfl
                          refine pure_ (i := 14) (N := some 29) (v := ?_) (a' := ?_) #[true, true, true, true, true, true, true, true, true, true, true, true, false, true, true, false, false, false, false, false, false, false, false] rfl rfl (any_of HT_.out (by kernel_rfl)) (fun _ _ _ h => h) (Or.inl ⟨by rfl, ?_⟩) ?_ ?_
                          rotate_left
                          · intro w'
                            go_simp
                            with_reducible rfl
                          rotate_left
                          · simp only [Act.put, List.setIfInBounds_toArray, List.set_cons_zero, List.set_cons_succ, i64_w, i32_w]
                            rfl
                          refine pure_ (i := 15) (N := some 30) (v := ?_) (a' := ?_) #[true, true, true, true, true, true, true, true, true, true, true, true, false, true, true, true, false, false, false, false, false, false, false] rfl rfl (any_of HT_.out (by kernel_rfl)) (fun _ _ _ h => h) (Or.inl ⟨by rfl, ?_⟩) ?_ ?_
                          rotate_left
                          · intro w'
                            go_simp
                            with_reducible rfl
                          rotate_left
                          · simp only [Act.put, List.setIfInBounds_toArray, List.set_cons_zero, List.set_cons_succ, i64_w, i32_w]
                            rfl
                          refine take_ (i := 12) (N := some 27) (v := ?_) (a' := ?_) #[true, true, true, true, true, true, true, true, true, true, true, true, true, true, true, true, false, false, false, false, false, false, false] rfl rfl (take_ofW HT_.out HW_.out (by kernel_rfl)) (fun _ _ _ h => h) (Or.inl ⟨by rfl, ?_⟩) hHeld ?_ ?_
                          rotate_left
                          · rintro w' ⟨s0, s1⟩
                            go_simp
                            with_reducible rfl
                          rotate_left
                          · simp only [Act.put, List.setIfInBounds_toArray, List.set_cons_zero, List.set_cons_succ, i64_w, i32_w]
                            rfl
                          refine take_ (i := 16) (N := some 31) (v := ?_) (a' := ?_) #[true, true, true, true, true, true, true, true, true, true, true, true, true, true, true, true, true, false, false, false, false, false, false] rfl rfl (take_ofW HT_.out HW_.out (by kernel_rfl)) (fun _ _ _ h => h) (Or.inl ⟨by rfl, ?_⟩) hHeld ?_ ?_
                          rotate_left
                          · rintro w' ⟨s0, s1⟩
                            go_simp
                            with_reducible rfl
                          rotate_left
                          · simp only [Act.put, List.setIfInBounds_toArray, List.set_cons_zero, List.set_cons_succ, i64_w, i32_w]
                            rfl
                          refine pure_ (i := 17) (N := some 32) (v := ?_) (a' := ?_) #[true, true, true, true, true, true, true, true, true, true, true, true, true, true, true, true, true, true, false, false, false, false, false] rfl rfl (any_of HT_.out (by kernel_rfl)) (fun _ _ _ h => h) (Or.inl ⟨by rfl, ?_⟩) ?_ ?_
                          rotate_left
                          · intro w'
                            go_simp
                            with_reducible rfl
                          rotate_left
                          · simp only [Act.put, List.setIfInBounds_toArray, List.set_cons_zero, List.set_cons_succ, i64_w, i32_w]
                            rfl
                          refine pure_ (i := 18) (N := some 33) (v := ?_) (a' := ?_) #[true, true, true, true, true, true, true, true, true, true, true, true, true, true, true, true, true, true, true, false, false, false, false] rfl rfl (any_of HT_.out (by kernel_rfl)) (fun _ _ _ h => h) (Or.inl ⟨by rfl, ?_⟩) ?_ ?_
                          rotate_left
                          · intro w'
                            go_simp
                            with_reducible rfl
                          rotate_left
                          · simp only [Act.put, List.setIfInBounds_toArray, List.set_cons_zero, List.set_cons_succ, i64_w, i32_w]
                            rfl
                          refine pure_ (i := 19) (N := some 34) (v := ?_) (a' := ?_) #[true, true, true, true, true, true, true, true, true, true, true, true, true, true, true, true, true, true, true, true, false, false, false] rfl rfl (any_of HT_.out (by kernel_rfl)) (fun _ _ _ h => h) (Or.inl ⟨by rfl, ?_⟩) ?_ ?_
                          rotate_left
                          · intro w'
                            go_simp
                            with_reducible rfl
                          rotate_left
                          · simp only [Act.put, List.setIfInBounds_toArray, List.set_cons_zero, List.set_cons_succ, i64_w, i32_w]
                            rfl
                          refine pure_ (i := 20) (N := some 35) (v := ?_) (a' := ?_) #[true, true, true, true, true, true, true, true, true, true, true, true, true, true, true, true, true, true, true, true, true, false, false] rfl rfl (any_of HT_.out (by kernel_rfl)) (fun _ _ _ h => h) (Or.inl ⟨by rfl, ?_⟩) ?_ ?_
                          rotate_left
                          · intro w'
                            go_simp
                            with_reducible rfl
                          rotate_left
                          · simp only [Act.put, List.setIfInBounds_toArray, List.set_cons_zero, List.set_cons_succ, i64_w, i32_w]
                            rfl
                          refine pure_ (i := 21) (N := some 36) (v := ?_) (a' := ?_) #[true, true, true, true, true, true, true, true, true, true, true, true, true, true, true, true, true, true, true, true, true, true, false] rfl rfl (any_of HT_.out (by kernel_rfl)) (fun _ _ _ h => h) (Or.inl ⟨by rfl, ?_⟩) ?_ ?_
                          rotate_left
                          · intro w'
                            go_simp
                            with_reducible rfl
                          rotate_left
                          · simp only [Act.put, List.setIfInBounds_toArray, List.set_cons_zero, List.set_cons_succ, i64_w, i32_w]
                            rfl
                          refine pure_ (i := 22) (N := some 37) (v := ?_) (a' := ?_) #[true, true, true, true, true, true, true, true, true, true, true, true, true, true, true, true, true, true, true, true, true, true, true] rfl rfl (any_of HT_.out (by kernel_rfl)) (fun _ _ _ h => h) (Or.inl ⟨by rfl, ?_⟩) ?_ ?_
                          rotate_left
                          · intro w'
                            go_simp
                            with_reducible rfl
                          rotate_left
                          · simp only [Act.put, List.setIfInBounds_toArray, List.set_cons_zero, List.set_cons_succ, i64_w, i32_w]
                            rfl
                          refine done_ (done_of HT_.out (by kernel_rfl)) ?_
                          try go_wp2
                          go_roundg k2
                          case measure => have := HK1.out; have := HK2.out; omega
                          case rel => exact ⟨(wrap64 (x9_2 + 1)), (by first | rfl | (simp; done) | (simp [*]; done)), H', ⟨by have := HK1.out; have := HK2.out; omega⟩, ⟨by (with_reducible repeat (first | apply Kd.R_alloc | apply Kd.R_drewN | apply Kd.R_drew)); exact HO_7.out⟩, ⟨by repeat (first | (with_reducible first | exact HB.out | apply below_alloc | apply pw_below_drewN | apply below_drew1) | exact HB.out)⟩⟩
                        · rw [if_neg c14] at H
                          have c14b0 : decide (x9_2 < 128) = false := decide_eq_false c14
                          clear c14
                          have H' := Aside0.mk H
                          clear H
                          try go_wp2
                          have n0_ := Aside0.mk (Kd.R_drew HO_7.out)
                          have n1_ := Aside0.mk (below_drew1 HB.out)
                          clear HO_7
                          clear HB
                          have HO_7 := n0_
                          have HB := n1_
                          clear n0_ n1_
                          have p175 : 0 ≤ ((ji9) : Int) := of_decide_eq_true (by first | (with_reducible assumption) | assumption)
                          have q175 : (ji9) < (l0.length : Int) := of_decide_eq_true (by first | (with_reducible assumption) | assumption)
                          obtain ⟨ad175, e175, hx175_0⟩ := Kd.at_int HR0.out (ji9) p175 q175
                          have hw175_0 := hx175_0
                          cases e175
                          replace hx175_0 := (HB.out.cell (World.block_lt_of_cell? w _ hx175_0)).trans hx175_0
                          replace p175 := eq_true p175
                          replace q175 := eq_true q175
                          have p176 : 0 ≤ (x8_1 : Int) := of_decide_eq_true (by first | (with_reducible assumption) | assumption)
                          have q176 : x8_1 < (l0.length : Int) := of_decide_eq_true (by first | (with_reducible assumption) | assumption)
                          obtain ⟨ad176, e176, hx176_0⟩ := Kd.at_int HR0.out x8_1 p176 q176
                          have hw176_0 := hx176_0
                          obtain rfl : ad175 = ad176 := (by injection e176)
                          replace hx176_0 := (HB.out.cell (World.block_lt_of_cell? w _ hx176_0)).trans hx176_0
                          replace p176 := eq_true p176
                          replace q176 := eq_true q176
                          refine start_ (n := 23) (S := fun w' => w'.cell? (ad175.add ((ji9)).toNat) = some (.int .u8 (rd l0 (ji9))) ∧ w'.cell? (ad175.add (x8_1).toNat) = some (.int .u8 (rd l0 x8_1))) (ds := []) #[false, false, false, false, false, false, false, false, false, false, false, false, false, false, false, false, false, false, false, false, false, false, false] (by kernel_rfl) rfl rfl ⟨((HB.out.cell (World.block_lt_of_cell? w _ hw175_0)).trans hw175_0), ((HB.out.cell (World.block_lt_of_cell? w _ hw176_0)).trans hw176_0)⟩ (fun hHeld => ?_); refine with_tabW spec_Run.tab5 spec_Run.bits5 (fun HT_ HW_ => ?_)
                          generalize wr.drew = w16 at HO_7 HB hx175_0 hx176_0 hHeld ⊢
                          refine pure_ (i := 0) (N := some 15) (v := ?_) (a' := ?_) #[true, false, false, false, false, false, false, false, false, false, false, false, false, false, false, false, false, false, false, false, false, false, false] rfl rfl (any_of HT_.out (by kernel_rfl)) (fun _ _ _ h => h) (Or.inl ⟨by rfl, ?_⟩) ?_ ?_
                          rotate_left
                          · intro w'
                            go_simp
                            with_reducible rfl
                          rotate_left
                          · simp only [Act.put, List.setIfInBounds_toArray, List.set_cons_zero, List.set_cons_succ, i64_w, i32_w]
                            rfl
                          refine pure_ (i := 1) (N := some 16) (v := ?_) (a' := ?_) #[true, true, false, false, false, false, false, false, false, false, false, false, false, false, false, false, false, false, false, false, false, false, false] rfl rfl (any_of HT_.out (by kernel_rfl)) (fun _ _ _ h => h) (Or.inl ⟨by rfl, ?_⟩) ?_ ?_
                          rotate_left
                          · intro w'
                            go_simp
                            with_reducible rfl
                          rotate_left
                          · simp only [Act.put, List.setIfInBounds_toArray, List.set_cons_zero, List.set_cons_succ, i64_w, i32_w]
                            rfl
                          refine pure_ (i := 2) (N := some 17) (v := ?_) (a' := ?_) #[true, true, true, false, false, false, false, false, false, false, false, false, false, false, false, false, false, false, false, false, false, false, false] rfl rfl (any_of HT_.out (by kernel_rfl)) (fun _ _ _ h => h) (Or.inl ⟨by rfl, ?_⟩) ?_ ?_
                          rotate_left
                          · intro w'
                            go_simp
                            with_reducible rfl
                          rotate_left
                          · simp only [Act.put, List.setIfInBounds_toArray, List.set_cons_zero, List.set_cons_succ, i64_w, i32_w]
                            rfl
                          refine pure_ (i := 3) (N := some 18) (v := ?_) (a' := ?_) #[true, true, true, true, false, false, false, false, false, false, false, false, false, false, false, false, false, false, false, false, false, false, false] rfl rfl (any_of HT_.out (by kernel_rfl)) (fun _ _ _ h => h) (Or.inl ⟨by rfl, ?_⟩) ?_ ?_
                          rotate_left
                          · intro w'
                            go_simp
                            with_reducible rfl
                          rotate_left
                          · simp only [Act.put, List.setIfInBounds_toArray, List.set_cons_zero, List.set_cons_succ, i64_w, i32_w]
                            rfl
                          refine pure_ (i := 4) (N := some 19) (v := ?_) (a' := ?_) #[true, true, true, true, true, false, false, false, false, false, false, false, false, false, false, false, false, false, false, false, false, false, false] rfl rfl (any_of HT_.out (by kernel_rfl)) (fun _ _ _ h => h) (Or.inl ⟨by rfl, ?_⟩) ?_ ?_
                          rotate_left
                          · intro w'
                            go_simp
                            with_reducible rfl
                          rotate_left
                          · simp only [Act.put, List.setIfInBounds_toArray, List.set_cons_zero, List.set_cons_succ, i64_w, i32_w]
                            rfl
                          refine pure_ (i := 5) (N := some 20) (v := ?_) (a' := ?_) #[true, true, true, true, true, true, false, false, false, false, false, false, false, false, false, false, false, false, false, false, false, false, false] rfl rfl (any_of HT_.out (by kernel_rfl)) (fun _ _ _ h => h) (Or.inl ⟨by rfl, ?_⟩) ?_ ?_
                          rotate_left
                          · intro w'
                            go_simp
                            with_reducible rfl
                          rotate_left
                          · simp only [Act.put, List.setIfInBounds_toArray, List.set_cons_zero, List.set_cons_succ, i64_w, i32_w]
                            rfl
                          refine pure_ (i := 6) (N := some 21) (v := ?_) (a' := ?_) #[true, true, true, true, true, true, true, false, false, false, false, false, false, false, false, false, false, false, false, false, false, false, false] rfl rfl (any_of HT_.out (by kernel_rfl)) (fun _ _ _ h => h) (Or.inl ⟨by rfl, ?_⟩) ?_ ?_
                          rotate_left
                          · intro w'
                            go_simp
                            with_reducible rfl
                          rotate_left
                          · simp only [Act.put, List.setIfInBounds_toArray, List.set_cons_zero, List.set_cons_succ, i64_w, i32_w]
                            rfl
                          refine pure_ (i := 7) (N := some 22) (v := ?_) (a' := ?_) #[true, true, true, true, true, true, true, true, false, false, false, false, false, false, false, false, false, false, false, false, false, false, false] rfl rfl (any_of HT_.out (by kernel_rfl)) (fun _ _ _ h => h) (Or.inl ⟨by rfl, ?_⟩) ?_ ?_
                          rotate_left
                          · intro w'
                            go_simp
                            with_reducible rfl
                          rotate_left
                          · simp only [Act.put, List.setIfInBounds_toArray, List.set_cons_zero, List.set_cons_succ, i64_w, i32_w]
                            rfl
                          refine pure_ (i := 8) (N := some 23) (v := ?_) (a' := ?_) #[true, true, true, true, true, true, true, true, true, false, false, false, false, false, false, false, false, false, false, false, false, false, false] rfl rfl (any_of HT_.out (by kernel_rfl)) (fun _ _ _ h => h) (Or.inl ⟨by rfl, ?_⟩) ?_ ?_
                          rotate_left
                          · intro w'
                            go_simp
                            with_reducible rfl
                          rotate_left
                          · simp only [Act.put, List.setIfInBounds_toArray, List.set_cons_zero, List.set_cons_succ, i64_w, i32_w]
                            rfl
                          refine pure_ (i := 9) (N := some 24) (v := ?_) (a' := ?_) #[true, true, true, true, true, true, true, true, true, true, false, false, false, false, false, false, false, false, false, false, false, false, false] rfl rfl (any_of HT_.out (by kernel_rfl)) (fun _ _ _ h => h) (Or.inl ⟨by rfl, ?_⟩) ?_ ?_
                          rotate_left
                          · intro w'
                            go_simp
                            with_reducible rfl
                          rotate_left
                          · simp only [Act.put, List.setIfInBounds_toArray, List.set_cons_zero, List.set_cons_succ, i64_w, i32_w]
                            rfl
                          refine pure_ (i := 10) (N := some 25) (v := ?_) (a' := ?_) #[true, true, true, true, true, true, true, true, true, true, true, false, false, false, false, false, false, false, false, false, false, false, false] rfl rfl (any_of HT_.out (by kernel_rfl)) (fun _ _ _ h => h) (Or.inl ⟨by rfl, ?_⟩) ?_ ?_
                          rotate_left
                          · intro w'
                            go_simp
                            with_reducible rfl
                          rotate_left
                          · simp only [Act.put, List.setIfInBounds_toArray, List.set_cons_zero, List.set_cons_succ, i64_w, i32_w]
                            rfl
                          refine pure_ (i := 11) (N := some 26) (v := ?_) (a' := ?_) #[true, true, true, true, true, true, true, true, true, true, true, true, false, false, false, false, false, false, false, false, false, false, false] rfl rfl (any_of HT_.out (by kernel_rfl)) (fun _ _ _ h => h) (Or.inl ⟨by rfl, ?_⟩) ?_ ?_
                          rotate_left
                          · intro w'
                            go_simp
                            with_reducible rfl
                          rotate_left
                          · simp only [Act.put, List.setIfInBounds_toArray, List.set_cons_zero, List.set_cons_succ, i64_w, i32_w]
                            rfl
                          refine pure_ (i := 13) (N := some 28) (v := ?_) (a' := ?_) #[true, true, true, true, true, true, true, true, true, true, true, true, false, true, false, false, false, false, false, false, false, false, false] rfl rfl (any_of HT_.out (by kernel_rfl)) (fun _ _ _ h => h) (Or.inl ⟨by rfl, ?_⟩) ?_ ?_
                          rotate_left
                          · intro w'
                            go_simp
                            with_reducible rfl
                          rotate_left
                          · simp only [Act.put, List.setIfInBounds_toArray, List.set_cons_zero, List.set_cons_succ, i64_w, i32_w]
                            rfl
                          refine pure_ (i := 14) (N := some 29) (v := ?_) (a' := ?_) #[true, true, true, true, true, true, true, true, true, true, true, true, false, true, true, false, false, false, false, false, false, false, false] rfl rfl (any_of HT_.out (by kernel_rfl)) (fun _ _ _ h => h) (Or.inl ⟨by rfl, ?_⟩) ?_ ?_
                          rotate_left
                          · intro w'
                            go_simp
                            with_reducible rfl
                          rotate_left
                          · simp only [Act.put, List.setIfInBounds_toArray, List.set_cons_zero, List.set_cons_succ, i64_w, i32_w]
                            rfl
                          refine pure_ (i := 15) (N := some 30) (v := ?_) (a' := ?_) #[true, true, true, true, true, true, true, true, true, true, true, true, false, true, true, true, false, false, false, false, false, false, false] rfl rfl (any_of HT_.out (by kernel_rfl)) (fun _ _ _ h => h) (Or.inl ⟨by rfl, ?_⟩) ?_ ?_
                          rotate_left
                          · intro w'
                            go_simp
                            with_reducible rfl
                          rotate_left
                          · simp only [Act.put, List.setIfInBounds_toArray, List.set_cons_zero, List.set_cons_succ, i64_w, i32_w]
                            rfl
                          refine take_ (i := 12) (N := some 27) (v := ?_) (a' := ?_) #[true, true, true, true, true, true, true, true, true, true, true, true, true, true, true, true, false, false, false, false, false, false, false] rfl rfl (take_ofW HT_.out HW_.out (by kernel_rfl)) (fun _ _ _ h => h) (Or.inl ⟨by rfl, ?_⟩) hHeld ?_ ?_
                          rotate_left
                          · rintro w' ⟨s0, s1⟩
                            go_simp
                            with_reducible rfl
                          rotate_left
                          · simp only [Act.put, List.setIfInBounds_toArray, List.set_cons_zero, List.set_cons_succ, i64_w, i32_w]
                            rfl
                          refine take_ (i := 16) (N := some 31) (v := ?_) (a' := ?_) #[true, true, true, true, true, true, true, true, true, true, true, true, true, true, true, true, true, false, false, false, false, false, false] rfl rfl (take_ofW HT_.out HW_.out (by kernel_rfl)) (fun _ _ _ h => h) (Or.inl ⟨by rfl, ?_⟩) hHeld ?_ ?_
                          rotate_left
                          · rintro w' ⟨s0, s1⟩
                            go_simp
                            with_reducible rfl
                          rotate_left
                          · simp only [Act.put, List.setIfInBounds_toArray, List.set_cons_zero, List.set_cons_succ, i64_w, i32_w]
                            rfl
                          refine pure_ (i := 17) (N := some 32) (v := ?_) (a' := ?_) #[true, true, true, true, true, true, true, true, true, true, true, true, true, true, true, true, true, true, false, false, false, false, false] rfl rfl (any_of HT_.out (by kernel_rfl)) (fun _ _ _ h => h) (Or.inl ⟨by rfl, ?_⟩) ?_ ?_
                          rotate_left
                          · intro w'
                            go_simp
                            with_reducible rfl
                          rotate_left
                          · simp only [Act.put, List.setIfInBounds_toArray, List.set_cons_zero, List.set_cons_succ, i64_w, i32_w]
                            rfl
                          refine pure_ (i := 18) (N := some 33) (v := ?_) (a' := ?_) #[true, true, true, true, true, true, true, true, true, true, true, true, true, true, true, true, true, true, true, false, false, false, false] rfl rfl (any_of HT_.out (by kernel_rfl)) (fun _ _ _ h => h) (Or.inl ⟨by rfl, ?_⟩) ?_ ?_
                          rotate_left
                          · intro w'
                            go_simp
                            with_reducible rfl
                          rotate_left
                          · simp only [Act.put, List.setIfInBounds_toArray, List.set_cons_zero, List.set_cons_succ, i64_w, i32_w]
                            rfl
                          refine pure_ (i := 19) (N := some 34) (v := ?_) (a' := ?_) #[true, true, true, true, true, true, true, true, true, true, true, true, true, true, true, true, true, true, true, true, false, false, false] rfl rfl (any_of HT_.out (by kernel_rfl)) (fun _ _ _ h => h) (Or.inl ⟨by rfl, ?_⟩) ?_ ?_
                          rotate_left
                          · intro w'
                            go_simp
                            with_reducible rfl
                          rotate_left
                          · simp only [Act.put, List.setIfInBounds_toArray, List.set_cons_zero, List.set_cons_succ, i64_w, i32_w]
                            rfl
                          refine pure_ (i := 20) (N := some 35) (v := ?_) (a' := ?_) #[true, true, true, true, true, true, true, true, true, true, true, true, true, true, true, true, true, true, true, true, true, false, false] rfl rfl (any_of HT_.out (by kernel_rfl)) (fun _ _ _ h => h) (Or.inl ⟨by rfl, ?_⟩) ?_ ?_
                          rotate_left
                          · intro w'
                            go_simp
                            with_reducible rfl
                          rotate_left
                          · simp only [Act.put, List.setIfInBounds_toArray, List.set_cons_zero, List.set_cons_succ, i64_w, i32_w]
                            rfl
                          refine pure_ (i := 21) (N := some 36) (v := ?_) (a' := ?_) #[true, true, true, true, true, true, true, true, true, true, true, true, true, true, true, true, true, true, true, true, true, true, false] rfl rfl (any_of HT_.out (by kernel_rfl)) (fun _ _ _ h => h) (Or.inl ⟨by rfl, ?_⟩) ?_ ?_
                          rotate_left
                          · intro w'
                            go_simp
                            with_reducible rfl
                          rotate_left
                          · simp only [Act.put, List.setIfInBounds_toArray, List.set_cons_zero, List.set_cons_succ, i64_w, i32_w]
                            rfl
                          refine pure_ (i := 22) (N := some 37) (v := ?_) (a' := ?_) #[true, true, true, true, true, true, true, true, true, true, true, true, true, true, true, true, true, true, true, true, true, true, true] rfl rfl (any_of HT_.out (by kernel_rfl)) (fun _ _ _ h => h) (Or.inl ⟨by rfl, ?_⟩) ?_ ?_
                          rotate_left
                          · intro w'
                            go_simp
                            with_reducible rfl
                          rotate_left
                          · simp only [Act.put, List.setIfInBounds_toArray, List.set_cons_zero, List.set_cons_succ, i64_w, i32_w]
                            rfl
                          refine done_ (done_of HT_.out (by kernel_rfl)) ?_
                          try go_wp2
                          go_meet
                          case rel => exact ⟨_, (x9_2), (by first | rfl | (simp; done) | (simp [*]; done)), H', ⟨by have := HK1.out; have := HK2.out; first | omega | exact Nat.le_refl _⟩, ⟨by (with_reducible repeat (first | apply Kd.R_alloc | apply Kd.R_drewN | apply Kd.R_drew)); exact HO_7.out⟩, ⟨by repeat (first | (with_reducible first | exact HB.out | apply below_alloc | apply pw_below_drewN | apply below_drew1) | exact HB.out)⟩⟩
                      · rw [if_neg c13] at H
                        have c13b0 : ((rd l0 (ji9)) == (rd l0 x8_1)) = false := beq_eq_false_iff_ne.mpr c13
                        have c13b1 : ((rd l0 (ji9)) != (rd l0 x8_1)) = true := bne_iff_ne.mpr c13
                        have H' := Aside0.mk H
                        clear H
                        try go_wp2
                        have n0_ := Aside0.mk (Kd.R_drew HO_7.out)
                        have n1_ := Aside0.mk (below_drew1 HB.out)
                        clear HO_7
                        clear HB
                        have HO_7 := n0_
                        have HB := n1_
                        clear n0_ n1_
                        have p175 : 0 ≤ ((ji9) : Int) := of_decide_eq_true (by first | (with_reducible assumption) | assumption)
                        have q175 : (ji9) < (l0.length : Int) := of_decide_eq_true (by first | (with_reducible assumption) | assumption)
                        obtain ⟨ad175, e175, hx175_0⟩ := Kd.at_int HR0.out (ji9) p175 q175
                        have hw175_0 := hx175_0
                        cases e175
                        replace hx175_0 := (HB.out.cell (World.block_lt_of_cell? w _ hx175_0)).trans hx175_0
                        replace p175 := eq_true p175
                        replace q175 := eq_true q175
                        have p176 : 0 ≤ (x8_1 : Int) := of_decide_eq_true (by first | (with_reducible assumption) | assumption)
                        have q176 : x8_1 < (l0.length : Int) := of_decide_eq_true (by first | (with_reducible assumption) | assumption)
                        obtain ⟨ad176, e176, hx176_0⟩ := Kd.at_int HR0.out x8_1 p176 q176
                        have hw176_0 := hx176_0
                        obtain rfl : ad175 = ad176 := (by injection e176)
                        replace hx176_0 := (HB.out.cell (World.block_lt_of_cell? w _ hx176_0)).trans hx176_0
                        replace p176 := eq_true p176
                        replace q176 := eq_true q176
                        refine start_ (n := 23) (S := fun w' => w'.cell? (ad175.add ((ji9)).toNat) = some (.int .u8 (rd l0 (ji9))) ∧ w'.cell? (ad175.add (x8_1).toNat) = some (.int .u8 (rd l0 x8_1))) (ds := []) #[false, false, false, false, false, false, false, false, false, false, false, false, false, false, false, false, false, false, false, false, false, false, false] (by kernel_rfl) rfl rfl ⟨((HB.out.cell (World.block_lt_of_cell? w _ hw175_0)).trans hw175_0), ((HB.out.cell (World.block_lt_of_cell? w _ hw176_0)).trans hw176_0)⟩ (fun hHeld => ?_); refine with_tabW spec_Run.tab5 spec_Run.bits5 (fun HT_ HW_ => ?_)
                        generalize wr.drew = w17 at HO_7 HB hx175_0 hx176_0 hHeld ⊢
                        refine pure_ (i := 0) (N := some 15) (v := ?_) (a' := ?_) #[true, false, false, false, false, false, false, false, false, false, false, false, false, false, false, false, false, false, false, false, false, false, false] rfl rfl (any_of HT_.out (by kernel_rfl)) (fun _ _ _ h => h) (Or.inl ⟨by rfl, ?_⟩) ?_ ?_
                        rotate_left
                        · intro w'
                          go_simp
                          with_reducible rfl
                        rotate_left
                        · simp only [Act.put, List.setIfInBounds_toArray, List.set_cons_zero, List.set_cons_succ, i64_w, i32_w]
                          rfl
                        refine pure_ (i := 1) (N := some 16) (v := ?_) (a' := ?_) #[true, true, false, false, false, false, false, false, false, false, false, false, false, false, false, false, false, false, false, false, false, false, false] rfl rfl (any_of HT_.out (by kernel_rfl)) (fun _ _ _ h => h) (Or.inl ⟨by rfl, ?_⟩) ?_ ?_
                        rotate_left
                        · intro w'
                          go_simp
                          with_reducible rfl
                        rotate_left
                        · simp only [Act.put, List.setIfInBounds_toArray, List.set_cons_zero, List.set_cons_succ, i64_w, i32_w]
                          rfl
                        refine pure_ (i := 2) (N := some 17) (v := ?_) (a' := ?_) #[true, true, true, false, false, false, false, false, false, false, false, false, false, false, false, false, false, false, false, false, false, false, false] rfl rfl (any_of HT_.out (by kernel_rfl)) (fun _ _ _ h => h) (Or.inl ⟨by rfl, ?_⟩) ?_ ?_
                        rotate_left
                        · intro w'
                          go_simp
                          with_reducible rfl
                        rotate_left
                        · simp only [Act.put, List.setIfInBounds_toArray, List.set_cons_zero, List.set_cons_succ, i64_w, i32_w]
                          rfl
                        refine pure_ (i := 3) (N := some 18) (v := ?_) (a' := ?_) #[true, true, true, true, false, false, false, false, false, false, false, false, false, false, false, false, false, false, false, false, false, false, false] rfl rfl (any_of HT_.out (by kernel_rfl)) (fun _ _ _ h => h) (Or.inl ⟨by rfl, ?_⟩) ?_ ?_
                        rotate_left
                        · intro w'
                          go_simp
                          with_reducible rfl
                        rotate_left
                        · simp only [Act.put, List.setIfInBounds_toArray, List.set_cons_zero, List.set_cons_succ, i64_w, i32_w]
                          rfl
                        refine pure_ (i := 4) (N := some 19) (v := ?_) (a' := ?_) #[true, true, true, true, true, false, false, false, false, false, false, false, false, false, false, false, false, false, false, false, false, false, false] rfl rfl (any_of HT_.out (by kernel_rfl)) (fun _ _ _ h => h) (Or.inl ⟨by rfl, ?_⟩) ?_ ?_
                        rotate_left
                        · intro w'
                          go_simp
                          with_reducible rfl
                        rotate_left
                        · simp only [Act.put, List.setIfInBounds_toArray, List.set_cons_zero, List.set_cons_succ, i64_w, i32_w]
                          rfl
                        refine pure_ (i := 5) (N := some 20) (v := ?_) (a' := ?_) #[true, true, true, true, true, true, false, false, false, false, false, false, false, false, false, false, false, false, false, false, false, false, false] rfl rfl (any_of HT_.out (by kernel_rfl)) (fun _ _ _ h => h) (Or.inl ⟨by rfl, ?_⟩) ?_ ?_
                        rotate_left
                        · intro w'
                          go_simp
                          with_reducible rfl
                        rotate_left
                        · simp only [Act.put, List.setIfInBounds_toArray, List.set_cons_zero, List.set_cons_succ, i64_w, i32_w]
                          rfl
                        refine pure_ (i := 6) (N := some 21) (v := ?_) (a' := ?_) #[true, true, true, true, true, true, true, false, false, false, false, false, false, false, false, false, false, false, false, false, false, false, false] rfl rfl (any_of HT_.out (by kernel_rfl)) (fun _ _ _ h => h) (Or.inl ⟨by rfl, ?_⟩) ?_ ?_
                        rotate_left
                        · intro w'
                          go_simp
                          with_reducible rfl
                        rotate_left
                        · simp only [Act.put, List.setIfInBounds_toArray, List.set_cons_zero, List.set_cons_succ, i64_w, i32_w]
                          rfl
                        refine pure_ (i := 7) (N := some 22) (v := ?_) (a' := ?_) #[true, true, true, true, true, true, true, true, false, false, false, false, false, false, false, false, false, false, false, false, false, false, false] rfl rfl (any_of HT_.out (by kernel_rfl)) (fun _ _ _ h => h) (Or.inl ⟨by rfl, ?_⟩) ?_ ?_
                        rotate_left
                        · intro w'
                          go_simp
                          with_reducible rfl
                        rotate_left
                        · simp only [Act.put, List.setIfInBounds_toArray, List.set_cons_zero, List.set_cons_succ, i64_w, i32_w]
                          rfl
                        refine pure_ (i := 8) (N := some 23) (v := ?_) (a' := ?_) #[true, true, true, true, true, true, true, true, true, false, false, false, false, false, false, false, false, false, false, false, false, false, false] rfl rfl (any_of HT_.out (by kernel_rfl)) (fun _ _ _ h => h) (Or.inl ⟨by rfl, ?_⟩) ?_ ?_
                        rotate_left
                        · intro w'
                          go_simp
                          with_reducible rfl
                        rotate_left
                        · simp only [Act.put, List.setIfInBounds_toArray, List.set_cons_zero, List.set_cons_succ, i64_w, i32_w]
                          rfl
                        refine pure_ (i := 9) (N := some 24) (v := ?_) (a' := ?_) #[true, true, true, true, true, true, true, true, true, true, false, false, false, false, false, false, false, false, false, false, false, false, false] rfl rfl (any_of HT_.out (by kernel_rfl)) (fun _ _ _ h => h) (Or.inl ⟨by rfl, ?_⟩) ?_ ?_
                        rotate_left
                        · intro w'
                          go_simp
                          with_reducible rfl
                        rotate_left
                        · simp only [Act.put, List.setIfInBounds_toArray, List.set_cons_zero, List.set_cons_succ, i64_w, i32_w]
                          rfl
                        refine pure_ (i := 10) (N := some 25) (v := ?_) (a' := ?_) #[true, true, true, true, true, true, true, true, true, true, true, false, false, false, false, false, false, false, false, false, false, false, false] rfl rfl (any_of HT_.out (by kernel_rfl)) (fun _ _ _ h => h) (Or.inl ⟨by rfl, ?_⟩) ?_ ?_
                        rotate_left
                        · intro w'
                          go_simp
                          with_reducible rfl
                        rotate_left
                        · simp only [Act.put, List.setIfInBounds_toArray, List.set_cons_zero, List.set_cons_succ, i64_w, i32_w]
                          rfl
                        refine pure_ (i := 11) (N := some 26) (v := ?_) (a' := ?_) #[true, true, true, true, true, true, true, true, true, true, true, true, false, false, false, false, false, false, false, false, false, false, false] rfl rfl (any_of HT_.out (by kernel_rfl)) (fun _ _ _ h => h) (Or.inl ⟨by rfl, ?_⟩) ?_ ?_
                        rotate_left
                        · intro w'
                          go_simp
                          with_reducible rfl
                        rotate_left
                        · simp only [Act.put, List.setIfInBounds_toArray, List.set_cons_zero, List.set_cons_succ, i64_w, i32_w]
                          rfl
                        refine pure_ (i := 13) (N := some 28) (v := ?_) (a' := ?_) #[true, true, true, true, true, true, true, true, true, true, true, true, false, true, false, false, false, false, false, false, false, false, false] rfl rfl (any_of HT_.out (by kernel_rfl)) (fun _ _ _ h => h) (Or.inl ⟨by rfl, ?_⟩) ?_ ?_
                        rotate_left
                        · intro w'
                          go_simp
                          with_reducible rfl
                        rotate_left
                        · simp only [Act.put, List.setIfInBounds_toArray, List.set_cons_zero, List.set_cons_succ, i64_w, i32_w]
                          rfl
                        refine pure_ (i := 14) (N := some 29) (v := ?_) (a' := ?_) #[true, true, true, true, true, true, true, true, true, true, true, true, false, true, true, false, false, false, false, false, false, false, false] rfl rfl (any_of HT_.out (by kernel_rfl)) (fun _ _ _ h => h) (Or.inl ⟨by rfl, ?_⟩) ?_ ?_
                        rotate_left
                        · intro w'
                          go_simp
                          with_reducible rfl
                        rotate_left
                        · simp only [Act.put, List.setIfInBounds_toArray, List.set_cons_zero, List.set_cons_succ, i64_w, i32_w]
                          rfl
                        refine pure_ (i := 15) (N := some 30) (v := ?_) (a' := ?_) #[true, true, true, true, true, true, true, true, true, true, true, true, false, true, true, true, false, false, false, false, false, false, false] rfl rfl (any_of HT_.out (by kernel_rfl)) (fun _ _ _ h => h) (Or.inl ⟨by rfl, ?_⟩) ?_ ?_
                        rotate_left
                        · intro w'
                          go_simp
                          with_reducible rfl
                        rotate_left
                        · simp only [Act.put, List.setIfInBounds_toArray, List.set_cons_zero, List.set_cons_succ, i64_w, i32_w]
                          rfl
                        refine take_ (i := 12) (N := some 27) (v := ?_) (a' := ?_) #[true, true, true, true, true, true, true, true, true, true, true, true, true, true, true, true, false, false, false, false, false, false, false] rfl rfl (take_ofW HT_.out HW_.out (by kernel_rfl)) (fun _ _ _ h => h) (Or.inl ⟨by rfl, ?_⟩) hHeld ?_ ?_
                        rotate_left
                        · rintro w' ⟨s0, s1⟩
                          go_simp
                          with_reducible rfl
                        rotate_left
                        · simp only [Act.put, List.setIfInBounds_toArray, List.set_cons_zero, List.set_cons_succ, i64_w, i32_w]
                          rfl
                        refine take_ (i := 16) (N := some 31) (v := ?_) (a' := ?_) #[true, true, true, true, true, true, true, true, true, true, true, true, true, true, true, true, true, false, false, false, false, false, false] rfl rfl (take_ofW HT_.out HW_.out (by kernel_rfl)) (fun _ _ _ h => h) (Or.inl ⟨by rfl, ?_⟩) hHeld ?_ ?_
                        rotate_left
                        · rintro w' ⟨s0, s1⟩
                          go_simp
                          with_reducible rfl
                        rotate_left
                        · simp only [Act.put, List.setIfInBounds_toArray, List.set_cons_zero, List.set_cons_succ, i64_w, i32_w]
                          rfl
                        refine pure_ (i := 17) (N := some 32) (v := ?_) (a' := ?_) #[true, true, true, true, true, true, true, true, true, true, true, true, true, true, true, true, true, true, false, false, false, false, false] rfl rfl (any_of HT_.out (by kernel_rfl)) (fun _ _ _ h => h) (Or.inl ⟨by rfl, ?_⟩) ?_ ?_
                        rotate_left
                        · intro w'
                          go_simp
                          with_reducible rfl
                        rotate_left
                        · simp only [Act.put, List.setIfInBounds_toArray, List.set_cons_zero, List.set_cons_succ, i64_w, i32_w]
                          rfl
                        refine pure_ (i := 18) (N := some 33) (v := ?_) (a' := ?_) #[true, true, true, true, true, true, true, true, true, true, true, true, true, true, true, true, true, true, true, false, false, false, false] rfl rfl (any_of HT_.out (by kernel_rfl)) (fun _ _ _ h => h) (Or.inl ⟨by rfl, ?_⟩) ?_ ?_
                        rotate_left
                        · intro w'
                          go_simp
                          with_reducible rfl
                        rotate_left
                        · simp only [Act.put, List.setIfInBounds_toArray, List.set_cons_zero, List.set_cons_succ, i64_w, i32_w]
                          rfl
                        refine pure_ (i := 19) (N := some 34) (v := ?_) (a' := ?_) #[true, true, true, true, true, true, true, true, true, true, true, true, true, true, true, true, true, true, true, true, false, false, false] rfl rfl (any_of HT_.out (by kernel_rfl)) (fun _ _ _ h => h) (Or.inl ⟨by rfl, ?_⟩) ?_ ?_
                        rotate_left
                        · intro w'
                          go_simp
                          with_reducible rfl
                        rotate_left
                        · simp only [Act.put, List.setIfInBounds_toArray, List.set_cons_zero, List.set_cons_succ, i64_w, i32_w]
                          rfl
                        refine pure_ (i := 20) (N := some 35) (v := undef) (a' := ?_) #[true, true, true, true, true, true, true, true, true, true, true, true, true, true, true, true, true, true, true, true, true, false, false] rfl rfl (any_of HT_.out (by kernel_rfl)) (fun _ _ _ h => h) (Or.inr ⟨by rfl, rfl⟩) ?_ ?_
                        rotate_left
                        · simp only [Act.put, List.setIfInBounds_toArray, List.set_cons_zero, List.set_cons_succ, i64_w, i32_w]
                          rfl
                        refine pure_ (i := 21) (N := some 36) (v := undef) (a' := ?_) #[true, true, true, true, true, true, true, true, true, true, true, true, true, true, true, true, true, true, true, true, true, true, false] rfl rfl (any_of HT_.out (by kernel_rfl)) (fun _ _ _ h => h) (Or.inr ⟨by rfl, rfl⟩) ?_ ?_
                        rotate_left
                        · simp only [Act.put, List.setIfInBounds_toArray, List.set_cons_zero, List.set_cons_succ, i64_w, i32_w]
                          rfl
                        refine pure_ (i := 22) (N := some 37) (v := ?_) (a' := ?_) #[true, true, true, true, true, true, true, true, true, true, true, true, true, true, true, true, true, true, true, true, true, true, true] rfl rfl (any_of HT_.out (by kernel_rfl)) (fun _ _ _ h => h) (Or.inl ⟨by rfl, ?_⟩) ?_ ?_
                        rotate_left
                        · intro w'
                          go_simp
                          with_reducible rfl
                        rotate_left
                        · simp only [Act.put, List.setIfInBounds_toArray, List.set_cons_zero, List.set_cons_succ, i64_w, i32_w]
                          rfl
                        refine done_ (done_of HT_.out (by kernel_rfl)) ?_
                        try go_wp2
                        go_meet
                        case rel => exact ⟨_, (x9_2), (by first | rfl | (simp; done) | (simp [*]; done)), H', ⟨by have := HK1.out; have := HK2.out; first | omega | exact Nat.le_refl _⟩, ⟨by (with_reducible repeat (first | apply Kd.R_alloc | apply Kd.R_drewN | apply Kd.R_drew)); exact HO_7.out⟩, ⟨by repeat (first | (with_reducible first | exact HB.out | apply below_alloc | apply pw_below_drewN | apply below_drew1) | exact HB.out)⟩⟩
                    · rw [if_neg c12] at H
                      exact absurd H (by simp)
                  · rw [if_neg c11] at H
                    exact absurd H (by simp)
                · rw [if_neg c10] at H
                  exact absurd H (by simp)
              · rw [if_neg c8] at H
                have c8b0 : decide ((wrap64 (x8_1 + x9_2)) < (l0.length : Int)) = false := decide_eq_false c8
                clear c8
                (first | rw [c8b0] | (simp only [i64_w, i32_w]; rw [c8b0]) | skip)
                have H' := Aside0.mk H
                clear H
                try go_wp2
                have n0_ := Aside0.mk (Kd.R_drew HO_7.out)
                have n1_ := Aside0.mk (below_drew1 HB.out)
                clear HO_7
                clear HB
                have HO_7 := n0_
                have HB := n1_
                clear n0_ n1_
                refine start_ (n := 23) (S := fun w' => True) (ds := []) #[false, false, false, false, false, false, false, false, false, false, false, false, false, false, false, false, false, false, false, false, false, false, false] (by kernel_rfl) rfl rfl trivial (fun hHeld => ?_); refine with_tabW spec_Run.tab5 spec_Run.bits5 (fun HT_ HW_ => ?_)
                generalize wr.drew = w18 at HO_7 HB hHeld ⊢
                refine pure_ (i := 0) (N := some 15) (v := ?_) (a' := ?_) #[true, false, false, false, false, false, false, false, false, false, false, false, false, false, false, false, false, false, false, false, false, false, false] rfl rfl (any_of HT_.out (by kernel_rfl)) (fun _ _ _ h => h) (Or.inl ⟨by rfl, ?_⟩) ?_ ?_
                rotate_left
                · intro w'
                  go_simp
                  with_reducible rfl
                rotate_left
                · simp only [Act.put, List.setIfInBounds_toArray, List.set_cons_zero, List.set_cons_succ, i64_w, i32_w]
                  rfl
                refine pure_ (i := 1) (N := some 16) (v := ?_) (a' := ?_) #[true, true, false, false, false, false, false, false, false, false, false, false, false, false, false, false, false, false, false, false, false, false, false] rfl rfl (any_of HT_.out (by kernel_rfl)) (fun _ _ _ h => h) (Or.inl ⟨by rfl, ?_⟩) ?_ ?_
                rotate_left
                · intro w'
                  go_simp
                  with_reducible rfl
                rotate_left
                · simp only [Act.put, List.setIfInBounds_toArray, List.set_cons_zero, List.set_cons_succ, i64_w, i32_w]
                  rfl
                refine pure_ (i := 2) (N := some 17) (v := ?_) (a' := ?_) #[true, true, true, false, false, false, false, false, false, false, false, false, false, false, false, false, false, false, false, false, false, false, false] rfl rfl (any_of HT_.out (by kernel_rfl)) (fun _ _ _ h => h) (Or.inl ⟨by rfl, ?_⟩) ?_ ?_
                rotate_left
                · intro w'
                  go_simp
                  with_reducible rfl
                rotate_left
                · simp only [Act.put, List.setIfInBounds_toArray, List.set_cons_zero, List.set_cons_succ, i64_w, i32_w]
                  rfl
                refine pure_ (i := 3) (N := some 18) (v := ?_) (a' := ?_) #[true, true, true, true, false, false, false, false, false, false, false, false, false, false, false, false, false, false, false, false, false, false, false] rfl rfl (any_of HT_.out (by kernel_rfl)) (fun _ _ _ h => h) (Or.inl ⟨by rfl, ?_⟩) ?_ ?_
                rotate_left
                · intro w'
                  go_simp
                  with_reducible rfl
                rotate_left
                · simp only [Act.put, List.setIfInBounds_toArray, List.set_cons_zero, List.set_cons_succ, i64_w, i32_w]
                  rfl
                refine pure_ (i := 4) (N := some 19) (v := ?_) (a' := ?_) #[true, true, true, true, true, false, false, false, false, false, false, false, false, false, false, false, false, false, false, false, false, false, false] rfl rfl (any_of HT_.out (by kernel_rfl)) (fun _ _ _ h => h) (Or.inl ⟨by rfl, ?_⟩) ?_ ?_
                rotate_left
                · intro w'
                  go_simp
                  with_reducible rfl
                rotate_left
                · simp only [Act.put, List.setIfInBounds_toArray, List.set_cons_zero, List.set_cons_succ, i64_w, i32_w]
                  rfl
                refine pure_ (i := 5) (N := some 20) (v := ?_) (a' := ?_) #[true, true, true, true, true, true, false, false, false, false, false, false, false, false, false, false, false, false, false, false, false, false, false] rfl rfl (any_of HT_.out (by kernel_rfl)) (fun _ _ _ h => h) (Or.inl ⟨by rfl, ?_⟩) ?_ ?_
                rotate_left
                · intro w'
                  go_simp
                  with_reducible rfl
                rotate_left
                · simp only [Act.put, List.setIfInBounds_toArray, List.set_cons_zero, List.set_cons_succ, i64_w, i32_w]
                  rfl
                refine pure_ (i := 6) (N := some 21) (v := ?_) (a' := ?_) #[true, true, true, true, true, true, true, false, false, false, false, false, false, false, false, false, false, false, false, false, false, false, false] rfl rfl (any_of HT_.out (by kernel_rfl)) (fun _ _ _ h => h) (Or.inl ⟨by rfl, ?_⟩) ?_ ?_
                rotate_left
                · intro w'
                  go_simp
                  with_reducible rfl
                rotate_left
                · simp only [Act.put, List.setIfInBounds_toArray, List.set_cons_zero, List.set_cons_succ, i64_w, i32_w]
                  rfl
                refine pure_ (i := 7) (N := some 22) (v := undef) (a' := ?_) #[true, true, true, true, true, true, true, true, false, false, false, false, false, false, false, false, false, false, false, false, false, false, false] rfl rfl (any_of HT_.out (by kernel_rfl)) (fun _ _ _ h => h) (Or.inr ⟨by rfl, rfl⟩) ?_ ?_
                rotate_left
                · simp only [Act.put, List.setIfInBounds_toArray, List.set_cons_zero, List.set_cons_succ, i64_w, i32_w]
                  rfl
                refine pure_ (i := 8) (N := some 23) (v := undef) (a' := ?_) #[true, true, true, true, true, true, true, true, true, false, false, false, false, false, false, false, false, false, false, false, false, false, false] rfl rfl (any_of HT_.out (by kernel_rfl)) (fun _ _ _ h => h) (Or.inr ⟨by rfl, rfl⟩) ?_ ?_
                rotate_left
                · simp only [Act.put, List.setIfInBounds_toArray, List.set_cons_zero, List.set_cons_succ, i64_w, i32_w]
                  rfl
                refine pure_ (i := 9) (N := some 24) (v := undef) (a' := ?_) #[true, true, true, true, true, true, true, true, true, true, false, false, false, false, false, false, false, false, false, false, false, false, false] rfl rfl (any_of HT_.out (by kernel_rfl)) (fun _ _ _ h => h) (Or.inr ⟨by rfl, rfl⟩) ?_ ?_
                rotate_left
                · simp only [Act.put, List.setIfInBounds_toArray, List.set_cons_zero, List.set_cons_succ, i64_w, i32_w]
                  rfl
                refine pure_ (i := 10) (N := some 25) (v := undef) (a' := ?_) #[true, true, true, true, true, true, true, true, true, true, true, false, false, false, false, false, false, false, false, false, false, false, false] rfl rfl (any_of HT_.out (by kernel_rfl)) (fun _ _ _ h => h) (Or.inr ⟨by rfl, rfl⟩) ?_ ?_
                rotate_left
                · simp only [Act.put, List.setIfInBounds_toArray, List.set_cons_zero, List.set_cons_succ, i64_w, i32_w]
                  rfl
                refine pure_ (i := 11) (N := some 26) (v := undef) (a' := ?_) #[true, true, true, true, true, true, true, true, true, true, true, true, false, false, false, false, false, false, false, false, false, false, false] rfl rfl (any_of HT_.out (by kernel_rfl)) (fun _ _ _ h => h) (Or.inr ⟨by rfl, rfl⟩) ?_ ?_
                rotate_left
                · simp only [Act.put, List.setIfInBounds_toArray, List.set_cons_zero, List.set_cons_succ, i64_w, i32_w]
                  rfl
                refine pure_ (i := 12) (N := some 27) (v := undef) (a' := ?_) #[true, true, true, true, true, true, true, true, true, true, true, true, true, false, false, false, false, false, false, false, false, false, false] rfl rfl (any_of HT_.out (by kernel_rfl)) (fun _ _ _ h => h) (Or.inr ⟨by rfl, rfl⟩) ?_ ?_
                rotate_left
                · simp only [Act.put, List.setIfInBounds_toArray, List.set_cons_zero, List.set_cons_succ, i64_w, i32_w]
                  rfl
                refine pure_ (i := 13) (N := some 28) (v := undef) (a' := ?_) #[true, true, true, true, true, true, true, true, true, true, true, true, true, true, false, false, false, false, false, false, false, false, false] rfl rfl (any_of HT_.out (by kernel_rfl)) (fun _ _ _ h => h) (Or.inr ⟨by rfl, rfl⟩) ?_ ?_
                rotate_left
                · simp only [Act.put, List.setIfInBounds_toArray, List.set_cons_zero, List.set_cons_succ, i64_w, i32_w]
                  rfl
                refine pure_ (i := 14) (N := some 29) (v := undef) (a' := ?_) #[true, true, true, true, true, true, true, true, true, true, true, true, true, true, true, false, false, false, false, false, false, false, false] rfl rfl (any_of HT_.out (by kernel_rfl)) (fun _ _ _ h => h) (Or.inr ⟨by rfl, rfl⟩) ?_ ?_
                rotate_left
                · simp only [Act.put, List.setIfInBounds_toArray, List.set_cons_zero, List.set_cons_succ, i64_w, i32_w]
                  rfl
                refine pure_ (i := 15) (N := some 30) (v := undef) (a' := ?_) #[true, true, true, true, true, true, true, true, true, true, true, true, true, true, true, true, false, false, false, false, false, false, false] rfl rfl (any_of HT_.out (by kernel_rfl)) (fun _ _ _ h => h) (Or.inr ⟨by rfl, rfl⟩) ?_ ?_
                rotate_left
                · simp only [Act.put, List.setIfInBounds_toArray, List.set_cons_zero, List.set_cons_succ, i64_w, i32_w]
                  rfl
                refine pure_ (i := 16) (N := some 31) (v := undef) (a' := ?_) #[true, true, true, true, true, true, true, true, true, true, true, true, true, true, true, true, true, false, false, false, false, false, false] rfl rfl (any_of HT_.out (by kernel_rfl)) (fun _ _ _ h => h) (Or.inr ⟨by rfl, rfl⟩) ?_ ?_
                rotate_left
                · simp only [Act.put, List.setIfInBounds_toArray, List.set_cons_zero, List.set_cons_succ, i64_w, i32_w]
                  rfl
                refine pure_ (i := 17) (N := some 32) (v := undef) (a' := ?_) #[true, true, true, true, true, true, true, true, true, true, true, true, true, true, true, true, true, true, false, false, false, false, false] rfl rfl (any_of HT_.out (by kernel_rfl)) (fun _ _ _ h => h) (Or.inr ⟨by rfl, rfl⟩) ?_ ?_
                rotate_left
                · simp only [Act.put, List.setIfInBounds_toArray, List.set_cons_zero, List.set_cons_succ, i64_w, i32_w]
                  rfl
                refine pure_ (i := 18) (N := some 33) (v := ?_) (a' := ?_) #[true, true, true, true, true, true, true, true, true, true, true, true, true, true, true, true, true, true, true, false, false, false, false] rfl rfl (any_of HT_.out (by kernel_rfl)) (fun _ _ _ h => h) (Or.inl ⟨by rfl, ?_⟩) ?_ ?_
                rotate_left
                · intro w'
                  go_simp
                  with_reducible rfl
                rotate_left
                · simp only [Act.put, List.setIfInBounds_toArray, List.set_cons_zero, List.set_cons_succ, i64_w, i32_w]
                  rfl
                refine pure_ (i := 19) (N := some 34) (v := ?_) (a' := ?_) #[true, true, true, true, true, true, true, true, true, true, true, true, true, true, true, true, true, true, true, true, false, false, false] rfl rfl (any_of HT_.out (by kernel_rfl)) (fun _ _ _ h => h) (Or.inl ⟨by rfl, ?_⟩) ?_ ?_
                rotate_left
                · intro w'
                  go_simp
                  with_reducible rfl
                rotate_left
                · simp only [Act.put, List.setIfInBounds_toArray, List.set_cons_zero, List.set_cons_succ, i64_w, i32_w]
                  rfl
                refine pure_ (i := 20) (N := some 35) (v := undef) (a' := ?_) #[true, true, true, true, true, true, true, true, true, true, true, true, true, true, true, true, true, true, true, true, true, false, false] rfl rfl (any_of HT_.out (by kernel_rfl)) (fun _ _ _ h => h) (Or.inr ⟨by rfl, rfl⟩) ?_ ?_
                rotate_left
                · simp only [Act.put, List.setIfInBounds_toArray, List.set_cons_zero, List.set_cons_succ, i64_w, i32_w]
                  rfl
                refine pure_ (i := 21) (N := some 36) (v := undef) (a' := ?_) #[true, true, true, true, true, true, true, true, true, true, true, true, true, true, true, true, true, true, true, true, true, true, false] rfl rfl (any_of HT_.out (by kernel_rfl)) (fun _ _ _ h => h) (Or.inr ⟨by rfl, rfl⟩) ?_ ?_
                rotate_left
                · simp only [Act.put, List.setIfInBounds_toArray, List.set_cons_zero, List.set_cons_succ, i64_w, i32_w]
                  rfl
                refine pure_ (i := 22) (N := some 37) (v := ?_) (a' := ?_) #[true, true, true, true, true, true, true, true, true, true, true, true, true, true, true, true, true, true, true, true, true, true, true] rfl rfl (any_of HT_.out (by kernel_rfl)) (fun _ _ _ h => h) (Or.inl ⟨by rfl, ?_⟩) ?_ ?_
                rotate_left
                · intro w'
                  go_simp
                  with_reducible rfl
                rotate_left
                · simp only [Act.put, List.setIfInBounds_toArray, List.set_cons_zero, List.set_cons_succ, i64_w, i32_w]
                  rfl
                refine done_ (done_of HT_.out (by kernel_rfl)) ?_
                try go_wp2
                go_meet
                case rel => exact ⟨_, (x9_2), (by first | rfl | (simp; done) | (simp [*]; done)), H', ⟨by have := HK1.out; have := HK2.out; first | omega | exact Nat.le_refl _⟩, ⟨by (with_reducible repeat (first | apply Kd.R_alloc | apply Kd.R_drewN | apply Kd.R_drew)); exact HO_7.out⟩, ⟨by repeat (first | (with_reducible first | exact HB.out | apply below_alloc | apply pw_below_drewN | apply below_drew1) | exact HB.out)⟩⟩
        case rest =>
          clear HC7
          try clear c1
          try clear p1
          try clear q1
          try clear hx1
          try clear p2
          try clear p6
          try clear c8
          try clear c8b0
          try clear c10
          try clear c11
          try clear c12
          try clear c13
          try clear c13b0
          try clear c13b1
          try clear c14
          try clear c14b0
          try clear p17
          try clear q17
          try clear hx17
          try clear hx175_0
          try clear hx176_0
          try clear p175
          try clear p176
          try clear q175
          try clear q176
          obtain ⟨kq, x9_6, rfl, HA, HJ6, HO_7, HB⟩ := hcut
          cases kq with
          | zero => exact absurd HA.out (by simp [spec_Run.j2])
          | succ kj6 =>
            have H := HA.out
            clear HA
            simp only [spec_Run.j2] at H
            by_cases c19 : (Go.bits .and .i64 a2 2) = 0
            · rw [if_pos c19] at H
              have c19b0 : ((Go.bits .and .i64 a2 2) == 0) = true := beq_iff_eq.mpr c19
              have c19b1 : ((Go.bits .and .i64 a2 2) != 0) = false := bne_eq_false_iff_eq.mpr c19
              clear c19
              by_cases c20 : x9_6 > 1
              · rw [if_pos c20] at H
                have c20b0 : decide (1 < x9_6) = true := decide_eq_true c20
                clear c20
                by_cases c21 : (Go.bits .and .i64 a2 1) = 0
                · rw [if_pos c21] at H
                  have c21b0 : ((Go.bits .and .i64 a2 1) == 0) = true := beq_iff_eq.mpr c21
                  have c21b1 : ((Go.bits .and .i64 a2 1) != 0) = false := bne_eq_false_iff_eq.mpr c21
                  clear c21
                  obtain ⟨ji22, hji22⟩ : ∃ j_ : Int, (mn a1 (wrap64 ((l0.length : Int) - x8_1))) = j_ := ⟨_, rfl⟩
                  replace H : (if x7_1.length < 140737488355328 then ((some (x7_1 ++ [(wrap64 ((ji22) - 1)) % 256] : List Int)).bind fun y177 => (if 0 ≤ x8_1 then (if x8_1 ≤ (wrap64 (x8_1 + (ji22))) then (if (wrap64 (x8_1 + (ji22))) ≤ (l0.length : Int) then (if y177.length + ((l0.take ((wrap64 (x8_1 + (ji22))) : Int).toNat).drop (x8_1 : Int).toNat).length < 140737488355328 then (spec_Run.l0 kj6 l0 a1 a2 (y177 ++ ((l0.take ((wrap64 (x8_1 + (ji22))) : Int).toNat).drop (x8_1 : Int).toNat)) (wrap64 (x8_1 + (ji22)))) else (none)) else (none)) else (none)) else (none))) else (none)) = some r := by first | (rw [hji22] at H; exact H) | (simp only [hji22] at H ⊢; exact H)
                  have hji22_ : (if (wrap64 ((l0.length : Int) - x8_1)) < a1 then (wrap64 ((l0.length : Int) - x8_1)) else a1) = ji22 := hji22
                  by_cases c23 : x7_1.length < 140737488355328
                  · rw [if_pos c23] at H
                    have LMc23 := Aside0.mk c23
                    clear c23
                    obtain ⟨y177, hy177⟩ : ∃ y_ : List Int, y_ = (x7_1 ++ [(wrap64 ((ji22) - 1)) % 256]) := ⟨_, rfl⟩
                    replace H : (if 0 ≤ x8_1 then (if x8_1 ≤ (wrap64 (x8_1 + (ji22))) then (if (wrap64 (x8_1 + (ji22))) ≤ (l0.length : Int) then (if y177.length + ((l0.take ((wrap64 (x8_1 + (ji22))) : Int).toNat).drop (x8_1 : Int).toNat).length < 140737488355328 then (spec_Run.l0 kj6 l0 a1 a2 (y177 ++ ((l0.take ((wrap64 (x8_1 + (ji22))) : Int).toNat).drop (x8_1 : Int).toNat)) (wrap64 (x8_1 + (ji22)))) else (none)) else (none)) else (none)) else (none)) = some r := by first | (rw [hy177]; with_reducible exact H) | (have H2_ := (Option.bind_some _ _).symm.trans H; rw [hy177]; with_reducible exact H2_) | (have H2_ := (Option.bind_some _ _).symm.trans H; with_reducible exact H2_) | with_reducible exact H | (rw [hy177]; exact H) | exact H
                    have Ny177 := Aside0.mk hy177
                    clear hy177
                    by_cases c24 : 0 ≤ x8_1
                    · rw [if_pos c24] at H
                      have c24b0 := eq_true c24
                      have c24b1 : decide (0 ≤ x8_1) = true := decide_eq_true c24
                      clear c24
                      by_cases c25 : x8_1 ≤ (wrap64 (x8_1 + (ji22)))
                      · rw [if_pos c25] at H
                        have c25b0 := eq_true c25
                        have c25b1 : decide (x8_1 ≤ (wrap64 (x8_1 + (ji22)))) = true := decide_eq_true c25
                        by_cases c26 : (wrap64 (x8_1 + (ji22))) ≤ (l0.length : Int)
                        · rw [if_pos c26] at H
                          have c26b0 := eq_true c26
                          have c26b1 : decide ((wrap64 (x8_1 + (ji22))) ≤ (l0.length : Int)) = true := decide_eq_true c26
                          by_cases c27 : y177.length + ((l0.take ((wrap64 (x8_1 + (ji22))) : Int).toNat).drop (x8_1 : Int).toNat).length < 140737488355328
                          · rw [if_pos c27] at H
                            have LMc27 := Aside0.mk c27
                            clear c27
                            obtain ⟨y181, hy181⟩ : ∃ y_ : List Int, y_ = (y177 ++ ((l0.take ((wrap64 (x8_1 + (ji22))) : Int).toNat).drop (x8_1 : Int).toNat)) := ⟨_, rfl⟩
                            replace H : (spec_Run.l0 kj6 l0 a1 a2 y181 (wrap64 (x8_1 + (ji22)))) = some r := by first | (rw [hy181]; with_reducible exact H) | (have H2_ := (Option.bind_some _ _).symm.trans H; rw [hy181]; with_reducible exact H2_) | (have H2_ := (Option.bind_some _ _).symm.trans H; with_reducible exact H2_) | with_reducible exact H | (rw [hy181]; exact H) | exact H
                            have Ny181 := Aside0.mk hy181
                            clear hy181
                            have H' := Aside0.mk H
                            clear H
                            try go_wp2
                            have n0_ := Aside0.mk (Kd.R_drew HO_7.out)
                            have n1_ := Aside0.mk (below_drew1 HB.out)
                            clear HO_7
                            clear HB
                            have HO_7 := n0_
                            have HB := n1_
                            clear n0_ n1_
                            obtain ⟨i029, hi029, _, hsz29, _⟩ := info_parts info5
                            obtain ⟨A29, hcut29, hA29, hC29⟩ := print_mid_of (P := Tryd.prog) (Value.int .u8) 0 26 5 .i64 .i64 Tryd.underlying26 hi029 hsz29 A0 c0 l0 x8_1 (wrap64 (x8_1 + (ji22))) (of_decide_eq_true (by first | (with_reducible assumption) | assumption)) (by first | omega | exact of_decide_eq_true (by first | (with_reducible assumption) | assumption)) (of_decide_eq_true (by first | (with_reducible assumption) | assumption)) HC0.out
                            have HR180 := Aside0.mk (Kd.C_of_reads (h1 := fun _ => rfl) (hA29 _ (Kd.reads_of_C HR0.out)))
                            have HC180 := Aside0.mk hC29
                            clear hA29 hC29 hi029 hsz29
                            refine start_ (n := 14) (S := fun w' => True) (ds := []) #[false, false, false, false, false, false, false, false, false, false, false, false, false, false] (by kernel_rfl) rfl rfl trivial (fun hHeld => ?_); refine with_tabW spec_Run.tab13 spec_Run.bits13 (fun HT_ HW_ => ?_)
                            generalize wc.drew = w28 at HO_7 HB HR180 hHeld ⊢
                            refine pure_ (i := 0) (N := some 72) (v := ?_) (a' := ?_) #[true, false, false, false, false, false, false, false, false, false, false, false, false, false] rfl rfl (any_of HT_.out (by kernel_rfl)) (fun _ _ _ h => h) (Or.inl ⟨by rfl, ?_⟩) ?_ ?_
                            rotate_left
                            · intro w'
                              go_simp
                              with_reducible rfl
                            rotate_left
                            · simp only [Act.put, List.setIfInBounds_toArray, List.set_cons_zero, List.set_cons_succ, i64_w, i32_w]
                              rfl
                            refine pure_ (i := 1) (N := some 73) (v := ?_) (a' := ?_) #[true, true, false, false, false, false, false, false, false, false, false, false, false, false] rfl rfl (any_of HT_.out (by kernel_rfl)) (fun _ _ _ h => h) (Or.inl ⟨by rfl, ?_⟩) ?_ ?_
                            rotate_left
                            · intro w'
                              go_simp
                              with_reducible rfl
                            rotate_left
                            · simp only [Act.put, List.setIfInBounds_toArray, List.set_cons_zero, List.set_cons_succ, i64_w, i32_w]
                              rfl
                            refine pure_ (i := 2) (N := some 74) (v := ?_) (a' := ?_) #[true, true, true, false, false, false, false, false, false, false, false, false, false, false] rfl rfl (any_of HT_.out (by kernel_rfl)) (fun _ _ _ h => h) (Or.inl ⟨by rfl, ?_⟩) ?_ ?_
                            rotate_left
                            · intro w'
                              go_simp
                              with_reducible rfl
                            rotate_left
                            · simp only [Act.put, List.setIfInBounds_toArray, List.set_cons_zero, List.set_cons_succ, i64_w, i32_w]
                              rfl
                            refine pure_ (i := 3) (N := some 75) (v := ?_) (a' := ?_) #[true, true, true, true, false, false, false, false, false, false, false, false, false, false] rfl rfl (any_of HT_.out (by kernel_rfl)) (fun _ _ _ h => h) (Or.inl ⟨by rfl, ?_⟩) ?_ ?_
                            rotate_left
                            · intro w'
                              go_simp
                              with_reducible rfl
                            rotate_left
                            · simp only [Act.put, List.setIfInBounds_toArray, List.set_cons_zero, List.set_cons_succ, i64_w, i32_w]
                              rfl
                            refine pure_ (i := 6) (N := some 78) (v := ?_) (a' := ?_) #[true, true, true, true, false, false, true, false, false, false, false, false, false, false] rfl rfl (any_of HT_.out (by kernel_rfl)) (fun _ _ _ h => h) (Or.inl ⟨by rfl, ?_⟩) ?_ ?_
                            rotate_left
                            · intro w'
                              go_simp
                              with_reducible rfl
                            rotate_left
                            · simp only [Act.put, List.setIfInBounds_toArray, List.set_cons_zero, List.set_cons_succ, i64_w, i32_w]
                              rfl
                            refine pure_ (i := 7) (N := some 79) (v := ?_) (a' := ?_) #[true, true, true, true, false, false, true, true, false, false, false, false, false, false] rfl rfl (any_of HT_.out (by kernel_rfl)) (fun _ _ _ h => h) (Or.inl ⟨by rfl, ?_⟩) ?_ ?_
                            rotate_left
                            · intro w'
                              go_simp
                              with_reducible rfl
                            rotate_left
                            · simp only [Act.put, List.setIfInBounds_toArray, List.set_cons_zero, List.set_cons_succ, i64_w, i32_w]
                              rfl
                            refine pure_ (i := 8) (N := some 80) (v := ?_) (a' := ?_) #[true, true, true, true, false, false, true, true, true, false, false, false, false, false] rfl rfl (any_of HT_.out (by kernel_rfl)) (fun _ _ _ h => h) (Or.inl ⟨by rfl, ?_⟩) ?_ ?_
                            rotate_left
                            · intro w'
                              go_simp
                              with_reducible rfl
                            rotate_left
                            · simp only [Act.put, List.setIfInBounds_toArray, List.set_cons_zero, List.set_cons_succ, i64_w, i32_w]
                              rfl
                            refine pure_ (i := 9) (N := some 81) (v := ?_) (a' := ?_) #[true, true, true, true, false, false, true, true, true, true, false, false, false, false] rfl rfl (any_of HT_.out (by kernel_rfl)) (fun _ _ _ h => h) (Or.inl ⟨by rfl, ?_⟩) ?_ ?_
                            rotate_left
                            · intro w'
                              go_simp
                              with_reducible rfl
                            rotate_left
                            · simp only [Act.put, List.setIfInBounds_toArray, List.set_cons_zero, List.set_cons_succ, i64_w, i32_w]
                              rfl
                            refine pure_ (i := 10) (N := some 82) (v := ?_) (a' := ?_) #[true, true, true, true, false, false, true, true, true, true, true, false, false, false] rfl rfl (any_of HT_.out (by kernel_rfl)) (fun _ _ _ h => h) (Or.inl ⟨by rfl, ?_⟩) ?_ ?_
                            rotate_left
                            · intro w'
                              go_simp
                              with_reducible rfl
                            rotate_left
                            · simp only [Act.put, List.setIfInBounds_toArray, List.set_cons_zero, List.set_cons_succ, i64_w, i32_w]
                              rfl
                            refine pure_ (i := 11) (N := some 83) (v := ?_) (a' := ?_) #[true, true, true, true, false, false, true, true, true, true, true, true, false, false] rfl rfl (any_of HT_.out (by kernel_rfl)) (fun _ _ _ h => h) (Or.inl ⟨by rfl, ?_⟩) ?_ ?_
                            rotate_left
                            · intro w'
                              go_simp
                              with_reducible rfl
                            rotate_left
                            · simp only [Act.put, List.setIfInBounds_toArray, List.set_cons_zero, List.set_cons_succ, i64_w, i32_w]
                              rfl
                            refine one_ (i := 4) (N := some 76) #[true, true, true, true, true, false, true, true, true, true, true, true, false, false] rfl rfl (one_of HT_.out (by kernel_rfl)) (by decide) (fun K hK => ?_)
                            refine value_ (w1 := ?_) (v := ?_) (by rfl) rfl ?_ ?_
                            rotate_left 2
                            · go_simp
                              constructor
                              · rfl
                              · rfl
                            refine hK.out _ _ trivial (fun hHeld => ?_)
                            clear hK K
                            refine norm_ (a' := ?_) ?_ ?_
                            rotate_left
                            · show Act.put _ (some 76) _ = _
                              simp only [Act.put, List.setIfInBounds_toArray, List.set_cons_zero, List.set_cons_succ, i64_w, i32_w]
                              rfl
                            refine one_ (i := 5) (N := some 77) #[true, true, true, true, true, true, true, true, true, true, true, true, false, false] rfl rfl (one_of HT_.out (by kernel_rfl)) (by decide) (fun K hK => ?_)
                            refine Kd.R_append_step (Kd.int .u8) (w0 := w) w.heap.size (by rfl) (.tmp 72) (.tmp 76) 26 5 (.int .u8 0) 1 rfl Tryd.underlying26 info5 rfl (by decide) (by omega) u7 x7_1 ((wrap64 ((ji22) - 1)) % 256) [.int .u8 ((wrap64 ((ji22) - 1)) % 256)] (fun _ => True) (fun _ => False) rfl rfl ?aP (fun _ hk => hk.elim) ?aF ?aO ?aB ?aS ?aL ?_
                            (case aP => exact rfl)
                            (case aB => exact (by repeat (first | (with_reducible first | exact HB.out | apply below_alloc | apply pw_below_drewN | apply below_drew1) | exact HB.out)))
                            (case aF => exact (fun _ _ => trivial))
                            (case aO => exact (by (with_reducible repeat (first | apply Kd.R_alloc | apply Kd.R_drewN | apply Kd.R_drew)); exact HO_7.out))
                            (case aS => exact (below_size (by repeat (first | (with_reducible first | exact HB.out | apply below_alloc | apply pw_below_drewN | apply below_drew1) | exact HB.out))))
                            (case aL => have := LMc23.out; omega)
                            intro v178 w30 ho hb hg hat
                            rw [← Ny177.out] at ho
                            have n0_ := Aside0.mk (hb)
                            have n1_ := Aside0.mk (ho)
                            clear HB
                            clear HO_7
                            have HB := n0_
                            have HO179 := n1_
                            clear n0_ n1_
                            clear ho hb hg hat
                            refine hK.out _ _ trivial (fun hHeld => ?_)
                            clear hK K
                            refine norm_ (a' := ?_) ?_ ?_
                            rotate_left
                            · show Act.put _ (some 77) _ = _
                              simp only [Act.put, List.setIfInBounds_toArray, List.set_cons_zero, List.set_cons_succ, i64_w, i32_w]
                              rfl
                            refine one_ (i := 12) (N := some 84) #[true, true, true, true, true, true, true, true, true, true, true, true, true, false] rfl rfl (one_of HT_.out (by kernel_rfl)) (by decide) (fun K hK => ?_)
                            refine Kd.R_append_rows_step (Kd.int .u8) (w0 := w) w.heap.size (by rfl) (.tmp 77) (.tmp 83) 26 5 (.int .u8 0) 1 rfl Tryd.underlying26 info5 rfl (by decide) (by omega) v178 y177 ((l0.take ((wrap64 (x8_1 + (ji22))) : Int).toNat).drop (x8_1 : Int).toNat) _ _ _ (fun _ => True) (fun _ => False) rfl rfl ?aO ?aR (fun _ _ h => h) (fun _ h => h.elim) ?aF ?aB ?aS ?aL ?_
                            (case aR => first | (rw [← show ((l0.take ((wrap64 (x8_1 + (ji22))) : Int).toNat).drop (x8_1 : Int).toNat).length = ((wrap64 (x8_1 + (ji22))).toNat - x8_1.toNat) from (by rw [List.length_drop, List.length_take]; have h_ : ((wrap64 (x8_1 + (ji22))) : Int) ≤ (l0.length : Int) := of_decide_eq_true (by first | (with_reducible assumption) | assumption); omega)]; repeat (first | exact (Kd.C_below HR180.out HB.out) | (with_reducible refine Kd.C_alloc ?_ _) | (with_reducible refine Kd.C_drewN ?_ _) | (with_reducible refine Kd.C_drew ?_))) | (repeat (first | exact (Kd.C_below HR180.out HB.out) | (with_reducible refine Kd.C_alloc ?_ _) | (with_reducible refine Kd.C_drewN ?_ _) | (with_reducible refine Kd.C_drew ?_))))
                            (case aB => exact (by repeat (first | (with_reducible first | exact HB.out | apply below_alloc | apply pw_below_drewN | apply below_drew1) | exact HB.out)))
                            (case aF => exact (fun _ _ => trivial))
                            (case aO => exact (by (with_reducible repeat (first | apply Kd.R_alloc | apply Kd.R_drewN | apply Kd.R_drew)); exact HO179.out))
                            (case aS => exact (below_size (by repeat (first | (with_reducible first | exact HB.out | apply below_alloc | apply pw_below_drewN | apply below_drew1) | exact HB.out))))
                            (case aL => have := LMc27.out; have hlx_ := (show ((l0.take ((wrap64 (x8_1 + (ji22))) : Int).toNat).drop (x8_1 : Int).toNat).length = ((wrap64 (x8_1 + (ji22))).toNat - x8_1.toNat) from (by rw [List.length_drop, List.length_take]; have h_ : ((wrap64 (x8_1 + (ji22))) : Int) ≤ (l0.length : Int) := of_decide_eq_true (by first | (with_reducible assumption) | assumption); omega)); omega)
                            intro v182 w31 ho hb hg hat
                            rw [← Ny181.out] at ho
                            have n0_ := Aside0.mk (hb)
                            have n1_ := Aside0.mk (ho)
                            clear HB
                            clear HO179
                            have HB := n0_
                            have HO183 := n1_
                            clear n0_ n1_
                            clear ho hb hg hat
                            refine hK.out _ _ trivial (fun hHeld => ?_)
                            clear hK K
                            refine norm_ (a' := ?_) ?_ ?_
                            rotate_left
                            · show Act.put _ (some 84) _ = _
                              simp only [Act.put, List.setIfInBounds_toArray, List.set_cons_zero, List.set_cons_succ, i64_w, i32_w]
                              rfl
                            refine pure_ (i := 13) (N := some 7) (v := ?_) (a' := ?_) #[true, true, true, true, true, true, true, true, true, true, true, true, true, true] rfl rfl (any_of HT_.out (by kernel_rfl)) (fun _ _ _ h => h) (Or.inl ⟨by rfl, ?_⟩) ?_ ?_
                            rotate_left
                            · intro w'
                              go_simp
                              with_reducible rfl
                            rotate_left
                            · simp only [Act.put, List.setIfInBounds_toArray, List.set_cons_zero, List.set_cons_succ, i64_w, i32_w]
                              rfl
                            refine done_ (done_of HT_.out (by kernel_rfl)) ?_
                            try go_wp2
                            go_roundg kj6
                            case measure => have := HK1.out; have := HJ6.out; omega
                            case rel => exact ⟨(y181), (wrap64 (x8_1 + (ji22))), (by first | rfl | (simp; done) | (simp only [← hji22] <;> (first | rfl | simp)) | (simp [*]; done)), H', ⟨by have := HK1.out; have := HJ6.out; omega⟩, ⟨by (with_reducible repeat (first | apply Kd.R_alloc | apply Kd.R_drewN | apply Kd.R_drew)); exact HO183.out⟩, ⟨by repeat (first | (with_reducible first | exact HB.out | apply below_alloc | apply pw_below_drewN | apply below_drew1) | exact HB.out)⟩⟩
                          · rw [if_neg c27] at H
                            exact absurd H (by simp)
                        · rw [if_neg c26] at H
                          exact absurd H (by simp)
                      · rw [if_neg c25] at H
                        exact absurd H (by simp)
                    · rw [if_neg c24] at H
                      exact absurd H (by simp)
                  · rw [if_neg c23] at H
                    exact absurd H (by simp)
                · rw [if_neg c21] at H
                  have c21b0 : ((Go.bits .and .i64 a2 1) == 0) = false := beq_eq_false_iff_ne.mpr c21
                  have c21b1 : ((Go.bits .and .i64 a2 1) != 0) = true := bne_iff_ne.mpr c21
                  by_cases c32 : 0 ≤ x8_1
                  · rw [if_pos c32] at H
                    have c32b0 : decide (0 ≤ x8_1) = true := decide_eq_true c32
                    clear c32
                    by_cases c33 : x8_1 < (l0.length : Int)
                    · rw [if_pos c33] at H
                      have c33b0 : decide (x8_1 < (l0.length : Int)) = true := decide_eq_true c33
                      clear c33
                      obtain ⟨y185, hy185⟩ : ∃ y_ : List Int, y_ = (([(wrap64 (257 - x9_6)) % 256, rd l0 x8_1] : List Int)) := ⟨_, rfl⟩
                      replace H : (if x7_1.length + y185.length < 140737488355328 then (spec_Run.l0 kj6 l0 a1 a2 (x7_1 ++ y185) (wrap64 (x8_1 + x9_6))) else (none)) = some r := by first | (rw [hy185]; with_reducible exact H) | (have H2_ := (Option.bind_some _ _).symm.trans H; rw [hy185]; with_reducible exact H2_) | (have H2_ := (Option.bind_some _ _).symm.trans H; with_reducible exact H2_) | with_reducible exact H | (rw [hy185]; exact H) | exact H
                      have Ny185 := Aside0.mk hy185
                      clear hy185
                      by_cases c34 : x7_1.length + y185.length < 140737488355328
                      · rw [if_pos c34] at H
                        have LMc34 := Aside0.mk c34
                        clear c34
                        obtain ⟨y188, hy188⟩ : ∃ y_ : List Int, y_ = (x7_1 ++ y185) := ⟨_, rfl⟩
                        replace H : (spec_Run.l0 kj6 l0 a1 a2 y188 (wrap64 (x8_1 + x9_6))) = some r := by first | (rw [hy188]; with_reducible exact H) | (have H2_ := (Option.bind_some _ _).symm.trans H; rw [hy188]; with_reducible exact H2_) | (have H2_ := (Option.bind_some _ _).symm.trans H; with_reducible exact H2_) | with_reducible exact H | (rw [hy188]; exact H) | exact H
                        have Ny188 := Aside0.mk hy188
                        clear hy188
                        have H' := Aside0.mk H
                        clear H
                        have p184 : 0 ≤ (x8_1 : Int) := of_decide_eq_true (by first | (with_reducible assumption) | assumption)
                        have q184 : x8_1 < (l0.length : Int) := of_decide_eq_true (by first | (with_reducible assumption) | assumption)
                        obtain ⟨ad184, e184, hx184_0⟩ := Kd.at_int HR0.out x8_1 p184 q184
                        cases e184
                        replace hx184_0 := (HB.out.cell (World.block_lt_of_cell? w _ hx184_0)).trans hx184_0
                        replace p184 := eq_true p184
                        replace q184 := eq_true q184
                        go_wp2_with (first | ((with_reducible refine gate_dst (N := 61) rfl ?_); refine Kd.R_lit (Kd.int .u8) _ 5 ?hg (N := 61) ?hd (xs := ([(wrap64 (257 - x9_6)) % 256, rd l0 x8_1] : List Int)) (inner := [.int .u8 ((wrap64 (257 - x9_6)) % 256), .int .u8 (rd l0 x8_1)]) (ok := fun _ => True) (okp := fun _ => True) ?hr ?hp (fun _ hk => hk) trivial (Below.refl _ _) (Nat.le_refl _) (by simp) ?_; (case hd => rfl); (case hg => rfl); (case hr => first | (go_simp; done) | (go_simp; rfl)); (case hp => exact (Reps.one (show Kd.M (Kd.int .u8) _ _ _ ((wrap64 (257 - x9_6)) % 256) [.int .u8 ((wrap64 (257 - x9_6)) % 256)] from rfl) (Reps.one (show Kd.M (Kd.int .u8) _ _ _ (rd l0 x8_1) [.int .u8 (rd l0 x8_1)] from rfl) (Reps.none _ _)))); intro v186 w35 ho36 hb hg_ hnew_; clear hg_ hnew_; (first | rw [← Ny185.out] at ho36 | (simp only [Int.reduceToNat] at ho36; rw [← Ny185.out] at ho36)); have n0_ := Aside0.mk (Kd.R_elder' (by (with_reducible repeat (first | apply Kd.R_alloc | apply Kd.R_drewN | apply Kd.R_drew)); exact HO_7.out) (Kd.R_base ho36) hb); have n1_ := Aside0.mk (Kd.R_lower (Kd.R_new' ho36 (Kd.R_lt (by (with_reducible repeat (first | apply Kd.R_alloc | apply Kd.R_drewN | apply Kd.R_drew)); exact HO_7.out))) (below_size (by repeat (first | (with_reducible first | exact HB.out | apply below_alloc | apply pw_below_drewN | apply below_drew1) | exact HB.out)))); have n2_ := Aside0.mk (below_step (by repeat (first | (with_reducible first | exact HB.out | apply below_alloc | apply pw_below_drewN | apply below_drew1) | exact HB.out)) hb); clear HO_7; clear HB; have HO_7 := n0_; have HO187 := n1_; have HB := n2_; clear n0_ n1_ n2_; clear hb ho36; obtain ⟨Ao38, co38, eo38⟩ := Kd.R_slice HO187.out; subst eo38) | ((with_reducible refine gate_builtin (b := .append) (xs := #[.tmp 53, .tmp 61]) rfl ?_); at_builtin; refine Kd.R_append_rows (Kd.int .u8) (w0 := w) w.heap.size rfl (.tmp 53) (.tmp 61) 26 5 (.int .u8 0) 1 rfl Tryd.underlying26 info5 rfl (by decide) (by omega) u7 x7_1 y185 _ _ _ (fun k_ => some k_ ≠ (.slice Ao38 y185.length co38 : Value).ownBlock) (fun _ => False) rfl rfl ?aO ?aR (fun _ _ h => h) (fun _ h => h.elim) ?aF ?aB ?aS ?aL ?_; (case aR => repeat (first | exact (Kd.R_reads' HO187.out).2.2 | (with_reducible refine Kd.C_alloc ?_ _) | (with_reducible refine Kd.C_drewN ?_ _) | (with_reducible refine Kd.C_drew ?_))); (case aB => exact (by repeat (first | (with_reducible first | exact HB.out | apply below_alloc | apply pw_below_drewN | apply below_drew1) | exact HB.out))); (case aF => exact (fun k_ hk => Kd.fresh' (Kd.R_lt (by (with_reducible repeat (first | apply Kd.R_alloc | apply Kd.R_drewN | apply Kd.R_drew)); exact HO187.out)) k_ hk)); (case aO => exact (by (with_reducible repeat (first | apply Kd.R_alloc | apply Kd.R_drewN | apply Kd.R_drew)); exact Kd.R_mono HO_7.out (fun _ hk => hk.2))); (case aS => exact (below_size (by repeat (first | (with_reducible first | exact HB.out | apply below_alloc | apply pw_below_drewN | apply below_drew1) | exact HB.out)))); (case aL => have := LMc34.out; omega); intro v189 w37 ho hb hg hat; rw [← Ny188.out] at ho; have n0_ := Aside0.mk (Kd.R_after (ok := (fun _ => True)) (by (with_reducible repeat (first | apply Kd.R_alloc | apply Kd.R_drewN | apply Kd.R_drew)); exact HO187.out) hg hat); have n1_ := Aside0.mk (hb); have n2_ := Aside0.mk (ho); clear HO187; clear HB; clear HO_7; have HO187 := n0_; have HB := n1_; have HO190 := n2_; clear n0_ n1_ n2_; clear ho hb hg hat))
                        go_roundg kj6
                        case measure => have := HK1.out; have := HJ6.out; omega
                        case rel => exact ⟨(y188), (wrap64 (x8_1 + x9_6)), (by first | rfl | (simp; done) | (simp [*]; done)), H', ⟨by have := HK1.out; have := HJ6.out; omega⟩, ⟨by (with_reducible repeat (first | apply Kd.R_alloc | apply Kd.R_drewN | apply Kd.R_drew)); exact Kd.R_mono HO190.out (fun _ hk => trivial)⟩, ⟨by repeat (first | (with_reducible first | exact HB.out | apply below_alloc | apply pw_below_drewN | apply below_drew1) | exact HB.out)⟩⟩
                      · rw [if_neg c34] at H
                        exact absurd H (by simp)
                    · rw [if_neg c33] at H
                      exact absurd H (by simp)
                  · rw [if_neg c32] at H
                    exact absurd H (by simp)
              · rw [if_neg c20] at H
                have c20b0 : decide (1 < x9_6) = false := decide_eq_false c20
                clear c20
                obtain ⟨ji39, hji39⟩ : ∃ j_ : Int, (mn a1 (wrap64 ((l0.length : Int) - x8_1))) = j_ := ⟨_, rfl⟩
                replace H : (if x7_1.length < 140737488355328 then ((some (x7_1 ++ [(wrap64 ((ji39) - 1)) % 256] : List Int)).bind fun y191 => (if 0 ≤ x8_1 then (if x8_1 ≤ (wrap64 (x8_1 + (ji39))) then (if (wrap64 (x8_1 + (ji39))) ≤ (l0.length : Int) then (if y191.length + ((l0.take ((wrap64 (x8_1 + (ji39))) : Int).toNat).drop (x8_1 : Int).toNat).length < 140737488355328 then (spec_Run.l0 kj6 l0 a1 a2 (y191 ++ ((l0.take ((wrap64 (x8_1 + (ji39))) : Int).toNat).drop (x8_1 : Int).toNat)) (wrap64 (x8_1 + (ji39)))) else (none)) else (none)) else (none)) else (none))) else (none)) = some r := by first | (rw [hji39] at H; exact H) | (simp only [hji39] at H ⊢; exact H)
                have hji39_ : (if (wrap64 ((l0.length : Int) - x8_1)) < a1 then (wrap64 ((l0.length : Int) - x8_1)) else a1) = ji39 := hji39
                by_cases c40 : x7_1.length < 140737488355328
                · rw [if_pos c40] at H
                  have LMc40 := Aside0.mk c40
                  clear c40
                  obtain ⟨y191, hy191⟩ : ∃ y_ : List Int, y_ = (x7_1 ++ [(wrap64 ((ji39) - 1)) % 256]) := ⟨_, rfl⟩
                  replace H : (if 0 ≤ x8_1 then (if x8_1 ≤ (wrap64 (x8_1 + (ji39))) then (if (wrap64 (x8_1 + (ji39))) ≤ (l0.length : Int) then (if y191.length + ((l0.take ((wrap64 (x8_1 + (ji39))) : Int).toNat).drop (x8_1 : Int).toNat).length < 140737488355328 then (spec_Run.l0 kj6 l0 a1 a2 (y191 ++ ((l0.take ((wrap64 (x8_1 + (ji39))) : Int).toNat).drop (x8_1 : Int).toNat)) (wrap64 (x8_1 + (ji39)))) else (none)) else (none)) else (none)) else (none)) = some r := by first | (rw [hy191]; with_reducible exact H) | (have H2_ := (Option.bind_some _ _).symm.trans H; rw [hy191]; with_reducible exact H2_) | (have H2_ := (Option.bind_some _ _).symm.trans H; with_reducible exact H2_) | with_reducible exact H | (rw [hy191]; exact H) | exact H
                  have Ny191 := Aside0.mk hy191
                  clear hy191
                  by_cases c41 : 0 ≤ x8_1
                  · rw [if_pos c41] at H
                    have c41b0 := eq_true c41
                    have c41b1 : decide (0 ≤ x8_1) = true := decide_eq_true c41
                    clear c41
                    by_cases c42 : x8_1 ≤ (wrap64 (x8_1 + (ji39)))
                    · rw [if_pos c42] at H
                      have c42b0 := eq_true c42
                      have c42b1 : decide (x8_1 ≤ (wrap64 (x8_1 + (ji39)))) = true := decide_eq_true c42
                      by_cases c43 : (wrap64 (x8_1 + (ji39))) ≤ (l0.length : Int)
                      · rw [if_pos c43] at H
                        have c43b0 := eq_true c43
                        have c43b1 : decide ((wrap64 (x8_1 + (ji39))) ≤ (l0.length : Int)) = true := decide_eq_true c43
                        by_cases c44 : y191.length + ((l0.take ((wrap64 (x8_1 + (ji39))) : Int).toNat).drop (x8_1 : Int).toNat).length < 140737488355328
                        · rw [if_pos c44] at H
                          have LMc44 := Aside0.mk c44
                          clear c44
                          obtain ⟨y195, hy195⟩ : ∃ y_ : List Int, y_ = (y191 ++ ((l0.take ((wrap64 (x8_1 + (ji39))) : Int).toNat).drop (x8_1 : Int).toNat)) := ⟨_, rfl⟩
                          replace H : (spec_Run.l0 kj6 l0 a1 a2 y195 (wrap64 (x8_1 + (ji39)))) = some r := by first | (rw [hy195]; with_reducible exact H) | (have H2_ := (Option.bind_some _ _).symm.trans H; rw [hy195]; with_reducible exact H2_) | (have H2_ := (Option.bind_some _ _).symm.trans H; with_reducible exact H2_) | with_reducible exact H | (rw [hy195]; exact H) | exact H
                          have Ny195 := Aside0.mk hy195
                          clear hy195
                          have H' := Aside0.mk H
                          clear H
                          try go_wp2
                          have n0_ := Aside0.mk (Kd.R_drew HO_7.out)
                          have n1_ := Aside0.mk (below_drew1 HB.out)
                          clear HO_7
                          clear HB
                          have HO_7 := n0_
                          have HB := n1_
                          clear n0_ n1_
                          obtain ⟨i046, hi046, _, hsz46, _⟩ := info_parts info5
                          obtain ⟨A46, hcut46, hA46, hC46⟩ := print_mid_of (P := Tryd.prog) (Value.int .u8) 0 26 5 .i64 .i64 Tryd.underlying26 hi046 hsz46 A0 c0 l0 x8_1 (wrap64 (x8_1 + (ji39))) (of_decide_eq_true (by first | (with_reducible assumption) | assumption)) (by first | omega | exact of_decide_eq_true (by first | (with_reducible assumption) | assumption)) (of_decide_eq_true (by first | (with_reducible assumption) | assumption)) HC0.out
                          have HR194 := Aside0.mk (Kd.C_of_reads (h1 := fun _ => rfl) (hA46 _ (Kd.reads_of_C HR0.out)))
                          have HC194 := Aside0.mk hC46
                          clear hA46 hC46 hi046 hsz46
                          refine start_ (n := 14) (S := fun w' => True) (ds := []) #[false, false, false, false, false, false, false, false, false, false, false, false, false, false] (by kernel_rfl) rfl rfl trivial (fun hHeld => ?_); refine with_tabW spec_Run.tab13 spec_Run.bits13 (fun HT_ HW_ => ?_)
                          generalize wc.drew = w45 at HO_7 HB HR194 hHeld ⊢
                          refine pure_ (i := 0) (N := some 72) (v := ?_) (a' := ?_) #[true, false, false, false, false, false, false, false, false, false, false, false, false, false] rfl rfl (any_of HT_.out (by kernel_rfl)) (fun _ _ _ h => h) (Or.inl ⟨by rfl, ?_⟩) ?_ ?_
                          rotate_left
                          · intro w'
                            go_simp
                            with_reducible rfl
                          rotate_left
                          · simp only [Act.put, List.setIfInBounds_toArray, List.set_cons_zero, List.set_cons_succ, i64_w, i32_w]
                            rfl
                          refine pure_ (i := 1) (N := some 73) (v := ?_) (a' := ?_) #[true, true, false, false, false, false, false, false, false, false, false, false, false, false] rfl rfl (any_of HT_.out (by kernel_rfl)) (fun _ _ _ h => h) (Or.inl ⟨by rfl, ?_⟩) ?_ ?_
                          rotate_left
                          · intro w'
                            go_simp
                            with_reducible rfl
                          rotate_left
                          · simp only [Act.put, List.setIfInBounds_toArray, List.set_cons_zero, List.set_cons_succ, i64_w, i32_w]
                            rfl
                          refine pure_ (i := 2) (N := some 74) (v := ?_) (a' := ?_) #[true, true, true, false, false, false, false, false, false, false, false, false, false, false] rfl rfl (any_of HT_.out (by kernel_rfl)) (fun _ _ _ h => h) (Or.inl ⟨by rfl, ?_⟩) ?_ ?_
                          rotate_left
                          · intro w'
                            go_simp
                            with_reducible rfl
                          rotate_left
                          · simp only [Act.put, List.setIfInBounds_toArray, List.set_cons_zero, List.set_cons_succ, i64_w, i32_w]
                            rfl
                          refine pure_ (i := 3) (N := some 75) (v := ?_) (a' := ?_) #[true, true, true, true, false, false, false, false, false, false, false, false, false, false] rfl rfl (any_of HT_.out (by kernel_rfl)) (fun _ _ _ h => h) (Or.inl ⟨by rfl, ?_⟩) ?_ ?_
                          rotate_left
                          · intro w'
                            go_simp
                            with_reducible rfl
                          rotate_left
                          · simp only [Act.put, List.setIfInBounds_toArray, List.set_cons_zero, List.set_cons_succ, i64_w, i32_w]
                            rfl
                          refine pure_ (i := 6) (N := some 78) (v := ?_) (a' := ?_) #[true, true, true, true, false, false, true, false, false, false, false, false, false, false] rfl rfl (any_of HT_.out (by kernel_rfl)) (fun _ _ _ h => h) (Or.inl ⟨by rfl, ?_⟩) ?_ ?_
                          rotate_left
                          · intro w'
                            go_simp
                            with_reducible rfl
                          rotate_left
                          · simp only [Act.put, List.setIfInBounds_toArray, List.set_cons_zero, List.set_cons_succ, i64_w, i32_w]
                            rfl
                          refine pure_ (i := 7) (N := some 79) (v := ?_) (a' := ?_) #[true, true, true, true, false, false, true, true, false, false, false, false, false, false] rfl rfl (any_of HT_.out (by kernel_rfl)) (fun _ _ _ h => h) (Or.inl ⟨by rfl, ?_⟩) ?_ ?_
                          rotate_left
                          · intro w'
                            go_simp
                            with_reducible rfl
                          rotate_left
                          · simp only [Act.put, List.setIfInBounds_toArray, List.set_cons_zero, List.set_cons_succ, i64_w, i32_w]
                            rfl
                          refine pure_ (i := 8) (N := some 80) (v := ?_) (a' := ?_) #[true, true, true, true, false, false, true, true, true, false, false, false, false, false] rfl rfl (any_of HT_.out (by kernel_rfl)) (fun _ _ _ h => h) (Or.inl ⟨by rfl, ?_⟩) ?_ ?_
                          rotate_left
                          · intro w'
                            go_simp
                            with_reducible rfl
                          rotate_left
                          · simp only [Act.put, List.setIfInBounds_toArray, List.set_cons_zero, List.set_cons_succ, i64_w, i32_w]
                            rfl
                          refine pure_ (i := 9) (N := some 81) (v := ?_) (a' := ?_) #[true, true, true, true, false, false, true, true, true, true, false, false, false, false] rfl rfl (any_of HT_.out (by kernel_rfl)) (fun _ _ _ h => h) (Or.inl ⟨by rfl, ?_⟩) ?_ ?_
                          rotate_left
                          · intro w'
                            go_simp
                            with_reducible rfl
                          rotate_left
                          · simp only [Act.put, List.setIfInBounds_toArray, List.set_cons_zero, List.set_cons_succ, i64_w, i32_w]
                            rfl
                          refine pure_ (i := 10) (N := some 82) (v := ?_) (a' := ?_) #[true, true, true, true, false, false, true, true, true, true, true, false, false, false] rfl rfl (any_of HT_.out (by kernel_rfl)) (fun _ _ _ h => h) (Or.inl ⟨by rfl, ?_⟩) ?_ ?_
                          rotate_left
                          · intro w'
                            go_simp
                            with_reducible rfl
                          rotate_left
                          · simp only [Act.put, List.setIfInBounds_toArray, List.set_cons_zero, List.set_cons_succ, i64_w, i32_w]
                            rfl
                          refine pure_ (i := 11) (N := some 83) (v := ?_) (a' := ?_) #[true, true, true, true, false, false, true, true, true, true, true, true, false, false] rfl rfl (any_of HT_.out (by kernel_rfl)) (fun _ _ _ h => h) (Or.inl ⟨by rfl, ?_⟩) ?_ ?_
                          rotate_left
                          · intro w'
                            go_simp
                            with_reducible rfl
                          rotate_left
                          · simp only [Act.put, List.setIfInBounds_toArray, List.set_cons_zero, List.set_cons_succ, i64_w, i32_w]
                            rfl
                          refine one_ (i := 4) (N := some 76) #[true, true, true, true, true, false, true, true, true, true, true, true, false, false] rfl rfl (one_of HT_.out (by kernel_rfl)) (by decide) (fun K hK => ?_)
                          refine value_ (w1 := ?_) (v := ?_) (by rfl) rfl ?_ ?_
                          rotate_left 2
                          · go_simp
                            constructor
                            · rfl
                            · rfl
                          refine hK.out _ _ trivial (fun hHeld => ?_)
                          clear hK K
                          refine norm_ (a' := ?_) ?_ ?_
                          rotate_left
                          · show Act.put _ (some 76) _ = _
                            simp only [Act.put, List.setIfInBounds_toArray, List.set_cons_zero, List.set_cons_succ, i64_w, i32_w]
                            rfl
                          refine one_ (i := 5) (N := some 77) #[true, true, true, true, true, true, true, true, true, true, true, true, false, false] rfl rfl (one_of HT_.out (by kernel_rfl)) (by decide) (fun K hK => ?_)
                          refine Kd.R_append_step (Kd.int .u8) (w0 := w) w.heap.size (by rfl) (.tmp 72) (.tmp 76) 26 5 (.int .u8 0) 1 rfl Tryd.underlying26 info5 rfl (by decide) (by omega) u7 x7_1 ((wrap64 ((ji39) - 1)) % 256) [.int .u8 ((wrap64 ((ji39) - 1)) % 256)] (fun _ => True) (fun _ => False) rfl rfl ?aP (fun _ hk => hk.elim) ?aF ?aO ?aB ?aS ?aL ?_
                          (case aP => exact rfl)
                          (case aB => exact (by repeat (first | (with_reducible first | exact HB.out | apply below_alloc | apply pw_below_drewN | apply below_drew1) | exact HB.out)))
                          (case aF => exact (fun _ _ => trivial))
                          (case aO => exact (by (with_reducible repeat (first | apply Kd.R_alloc | apply Kd.R_drewN | apply Kd.R_drew)); exact HO_7.out))
                          (case aS => exact (below_size (by repeat (first | (with_reducible first | exact HB.out | apply below_alloc | apply pw_below_drewN | apply below_drew1) | exact HB.out))))
                          (case aL => have := LMc40.out; omega)
                          intro v192 w47 ho hb hg hat
                          rw [← Ny191.out] at ho
                          have n0_ := Aside0.mk (hb)
                          have n1_ := Aside0.mk (ho)
                          clear HB
                          clear HO_7
                          have HB := n0_
                          have HO193 := n1_
                          clear n0_ n1_
                          clear ho hb hg hat
                          refine hK.out _ _ trivial (fun hHeld => ?_)
                          clear hK K
                          refine norm_ (a' := ?_) ?_ ?_
                          rotate_left
                          · show Act.put _ (some 77) _ = _
                            simp only [Act.put, List.setIfInBounds_toArray, List.set_cons_zero, List.set_cons_succ, i64_w, i32_w]
                            rfl
                          refine one_ (i := 12) (N := some 84) #[true, true, true, true, true, true, true, true, true, true, true, true, true, false] rfl rfl (one_of HT_.out (by kernel_rfl)) (by decide) (fun K hK => ?_)
                          refine Kd.R_append_rows_step (Kd.int .u8) (w0 := w) w.heap.size (by rfl) (.tmp 77) (.tmp 83) 26 5 (.int .u8 0) 1 rfl Tryd.underlying26 info5 rfl (by decide) (by omega) v192 y191 ((l0.take ((wrap64 (x8_1 + (ji39))) : Int).toNat).drop (x8_1 : Int).toNat) _ _ _ (fun _ => True) (fun _ => False) rfl rfl ?aO ?aR (fun _ _ h => h) (fun _ h => h.elim) ?aF ?aB ?aS ?aL ?_
                          (case aR => first | (rw [← show ((l0.take ((wrap64 (x8_1 + (ji39))) : Int).toNat).drop (x8_1 : Int).toNat).length = ((wrap64 (x8_1 + (ji39))).toNat - x8_1.toNat) from (by rw [List.length_drop, List.length_take]; have h_ : ((wrap64 (x8_1 + (ji39))) : Int) ≤ (l0.length : Int) := of_decide_eq_true (by first | (with_reducible assumption) | assumption); omega)]; repeat (first | exact (Kd.C_below HR194.out HB.out) | (with_reducible refine Kd.C_alloc ?_ _) | (with_reducible refine Kd.C_drewN ?_ _) | (with_reducible refine Kd.C_drew ?_))) | (repeat (first | exact (Kd.C_below HR194.out HB.out) | (with_reducible refine Kd.C_alloc ?_ _) | (with_reducible refine Kd.C_drewN ?_ _) | (with_reducible refine Kd.C_drew ?_))))
                          (case aB => exact (by repeat (first | (with_reducible first | exact HB.out | apply below_alloc | apply pw_below_drewN | apply below_drew1) | exact HB.out)))
                          (case aF => exact (fun _ _ => trivial))
                          (case aO => exact (by (with_reducible repeat (first | apply Kd.R_alloc | apply Kd.R_drewN | apply Kd.R_drew)); exact HO193.out))
                          (case aS => exact (below_size (by repeat (first | (with_reducible first | exact HB.out | apply below_alloc | apply pw_below_drewN | apply below_drew1) | exact HB.out))))
                          (case aL => have := LMc44.out; have hlx_ := (show ((l0.take ((wrap64 (x8_1 + (ji39))) : Int).toNat).drop (x8_1 : Int).toNat).length = ((wrap64 (x8_1 + (ji39))).toNat - x8_1.toNat) from (by rw [List.length_drop, List.length_take]; have h_ : ((wrap64 (x8_1 + (ji39))) : Int) ≤ (l0.length : Int) := of_decide_eq_true (by first | (with_reducible assumption) | assumption); omega)); omega)
                          intro v196 w48 ho hb hg hat
                          rw [← Ny195.out] at ho
                          have n0_ := Aside0.mk (hb)
                          have n1_ := Aside0.mk (ho)
                          clear HB
                          clear HO193
                          have HB := n0_
                          have HO197 := n1_
                          clear n0_ n1_
                          clear ho hb hg hat
                          refine hK.out _ _ trivial (fun hHeld => ?_)
                          clear hK K
                          refine norm_ (a' := ?_) ?_ ?_
                          rotate_left
                          · show Act.put _ (some 84) _ = _
                            simp only [Act.put, List.setIfInBounds_toArray, List.set_cons_zero, List.set_cons_succ, i64_w, i32_w]
                            rfl
                          refine pure_ (i := 13) (N := some 7) (v := ?_) (a' := ?_) #[true, true, true, true, true, true, true, true, true, true, true, true, true, true] rfl rfl (any_of HT_.out (by kernel_rfl)) (fun _ _ _ h => h) (Or.inl ⟨by rfl, ?_⟩) ?_ ?_
                          rotate_left
                          · intro w'
                            go_simp
                            with_reducible rfl
                          rotate_left
                          · simp only [Act.put, List.setIfInBounds_toArray, List.set_cons_zero, List.set_cons_succ, i64_w, i32_w]
                            rfl
                          refine done_ (done_of HT_.out (by kernel_rfl)) ?_
                          try go_wp2
                          go_roundg kj6
                          case measure => have := HK1.out; have := HJ6.out; omega
                          case rel => exact ⟨(y195), (wrap64 (x8_1 + (ji39))), (by first | rfl | (simp; done) | (simp only [← hji39] <;> (first | rfl | simp)) | (simp [*]; done)), H', ⟨by have := HK1.out; have := HJ6.out; omega⟩, ⟨by (with_reducible repeat (first | apply Kd.R_alloc | apply Kd.R_drewN | apply Kd.R_drew)); exact HO197.out⟩, ⟨by repeat (first | (with_reducible first | exact HB.out | apply below_alloc | apply pw_below_drewN | apply below_drew1) | exact HB.out)⟩⟩
                        · rw [if_neg c44] at H
                          exact absurd H (by simp)
                      · rw [if_neg c43] at H
                        exact absurd H (by simp)
                    · rw [if_neg c42] at H
                      exact absurd H (by simp)
                  · rw [if_neg c41] at H
                    exact absurd H (by simp)
                · rw [if_neg c40] at H
                  exact absurd H (by simp)
            · rw [if_neg c19] at H
              have c19b0 : ((Go.bits .and .i64 a2 2) == 0) = false := beq_eq_false_iff_ne.mpr c19
              have c19b1 : ((Go.bits .and .i64 a2 2) != 0) = true := bne_iff_ne.mpr c19
              by_cases c49 : x7_1.length < 140737488355328
              · rw [if_pos c49] at H
                have LMc49 := Aside0.mk c49
                clear c49
                obtain ⟨y198, hy198⟩ : ∃ y_ : List Int, y_ = (x7_1 ++ [128]) := ⟨_, rfl⟩
                replace H : (if x9_6 > 1 then (if (Go.bits .and .i64 a2 1) = 0 then (if y198.length < 140737488355328 then ((some (y198 ++ [(wrap64 ((mn a1 (wrap64 ((l0.length : Int) - x8_1))) - 1)) % 256] : List Int)).bind fun y201 => (if 0 ≤ x8_1 then (if x8_1 ≤ (wrap64 (x8_1 + (mn a1 (wrap64 ((l0.length : Int) - x8_1))))) then (if (wrap64 (x8_1 + (mn a1 (wrap64 ((l0.length : Int) - x8_1))))) ≤ (l0.length : Int) then (if y201.length + ((l0.take ((wrap64 (x8_1 + (mn a1 (wrap64 ((l0.length : Int) - x8_1))))) : Int).toNat).drop (x8_1 : Int).toNat).length < 140737488355328 then (spec_Run.l0 kj6 l0 a1 a2 (y201 ++ ((l0.take ((wrap64 (x8_1 + (mn a1 (wrap64 ((l0.length : Int) - x8_1))))) : Int).toNat).drop (x8_1 : Int).toNat)) (wrap64 (x8_1 + (mn a1 (wrap64 ((l0.length : Int) - x8_1)))))) else (none)) else (none)) else (none)) else (none))) else (none)) else (if 0 ≤ x8_1 then (if x8_1 < (l0.length : Int) then ((some (([(wrap64 (257 - x9_6)) % 256, rd l0 x8_1] : List Int) : List Int)).bind fun y209 => (if y198.length + y209.length < 140737488355328 then (spec_Run.l0 kj6 l0 a1 a2 (y198 ++ y209) (wrap64 (x8_1 + x9_6))) else (none))) else (none)) else (none))) else (if y198.length < 140737488355328 then ((some (y198 ++ [(wrap64 ((mn a1 (wrap64 ((l0.length : Int) - x8_1))) - 1)) % 256] : List Int)).bind fun y215 => (if 0 ≤ x8_1 then (if x8_1 ≤ (wrap64 (x8_1 + (mn a1 (wrap64 ((l0.length : Int) - x8_1))))) then (if (wrap64 (x8_1 + (mn a1 (wrap64 ((l0.length : Int) - x8_1))))) ≤ (l0.length : Int) then (if y215.length + ((l0.take ((wrap64 (x8_1 + (mn a1 (wrap64 ((l0.length : Int) - x8_1))))) : Int).toNat).drop (x8_1 : Int).toNat).length < 140737488355328 then (spec_Run.l0 kj6 l0 a1 a2 (y215 ++ ((l0.take ((wrap64 (x8_1 + (mn a1 (wrap64 ((l0.length : Int) - x8_1))))) : Int).toNat).drop (x8_1 : Int).toNat)) (wrap64 (x8_1 + (mn a1 (wrap64 ((l0.length : Int) - x8_1)))))) else (none)) else (none)) else (none)) else (none))) else (none))) = some r := by first | (rw [hy198]; with_reducible exact H) | (have H2_ := (Option.bind_some _ _).symm.trans H; rw [hy198]; with_reducible exact H2_) | (have H2_ := (Option.bind_some _ _).symm.trans H; with_reducible exact H2_) | with_reducible exact H | (rw [hy198]; exact H) | exact H
                have Ny198 := Aside0.mk hy198
                clear hy198
                by_cases c50 : x9_6 > 1
                · rw [if_pos c50] at H
                  have c50b0 : decide (1 < x9_6) = true := decide_eq_true c50
                  clear c50
                  by_cases c51 : (Go.bits .and .i64 a2 1) = 0
                  · rw [if_pos c51] at H
                    have c51b0 : ((Go.bits .and .i64 a2 1) == 0) = true := beq_iff_eq.mpr c51
                    have c51b1 : ((Go.bits .and .i64 a2 1) != 0) = false := bne_eq_false_iff_eq.mpr c51
                    clear c51
                    obtain ⟨ji52, hji52⟩ : ∃ j_ : Int, (mn a1 (wrap64 ((l0.length : Int) - x8_1))) = j_ := ⟨_, rfl⟩
                    replace H : (if y198.length < 140737488355328 then ((some (y198 ++ [(wrap64 ((ji52) - 1)) % 256] : List Int)).bind fun y201 => (if 0 ≤ x8_1 then (if x8_1 ≤ (wrap64 (x8_1 + (ji52))) then (if (wrap64 (x8_1 + (ji52))) ≤ (l0.length : Int) then (if y201.length + ((l0.take ((wrap64 (x8_1 + (ji52))) : Int).toNat).drop (x8_1 : Int).toNat).length < 140737488355328 then (spec_Run.l0 kj6 l0 a1 a2 (y201 ++ ((l0.take ((wrap64 (x8_1 + (ji52))) : Int).toNat).drop (x8_1 : Int).toNat)) (wrap64 (x8_1 + (ji52)))) else (none)) else (none)) else (none)) else (none))) else (none)) = some r := by first | (rw [hji52] at H; exact H) | (simp only [hji52] at H ⊢; exact H)
                    have hji52_ : (if (wrap64 ((l0.length : Int) - x8_1)) < a1 then (wrap64 ((l0.length : Int) - x8_1)) else a1) = ji52 := hji52
                    by_cases c53 : y198.length < 140737488355328
                    · rw [if_pos c53] at H
                      have LMc53 := Aside0.mk c53
                      clear c53
                      obtain ⟨y201, hy201⟩ : ∃ y_ : List Int, y_ = (y198 ++ [(wrap64 ((ji52) - 1)) % 256]) := ⟨_, rfl⟩
                      replace H : (if 0 ≤ x8_1 then (if x8_1 ≤ (wrap64 (x8_1 + (ji52))) then (if (wrap64 (x8_1 + (ji52))) ≤ (l0.length : Int) then (if y201.length + ((l0.take ((wrap64 (x8_1 + (ji52))) : Int).toNat).drop (x8_1 : Int).toNat).length < 140737488355328 then (spec_Run.l0 kj6 l0 a1 a2 (y201 ++ ((l0.take ((wrap64 (x8_1 + (ji52))) : Int).toNat).drop (x8_1 : Int).toNat)) (wrap64 (x8_1 + (ji52)))) else (none)) else (none)) else (none)) else (none)) = some r := by first | (rw [hy201]; with_reducible exact H) | (have H2_ := (Option.bind_some _ _).symm.trans H; rw [hy201]; with_reducible exact H2_) | (have H2_ := (Option.bind_some _ _).symm.trans H; with_reducible exact H2_) | with_reducible exact H | (rw [hy201]; exact H) | exact H
                      have Ny201 := Aside0.mk hy201
                      clear hy201
                      by_cases c54 : 0 ≤ x8_1
                      · rw [if_pos c54] at H
                        have c54b0 := eq_true c54
                        have c54b1 : decide (0 ≤ x8_1) = true := decide_eq_true c54
                        clear c54
                        by_cases c55 : x8_1 ≤ (wrap64 (x8_1 + (ji52)))
                        · rw [if_pos c55] at H
                          have c55b0 := eq_true c55
                          have c55b1 : decide (x8_1 ≤ (wrap64 (x8_1 + (ji52)))) = true := decide_eq_true c55
                          by_cases c56 : (wrap64 (x8_1 + (ji52))) ≤ (l0.length : Int)
                          · rw [if_pos c56] at H
                            have c56b0 := eq_true c56
                            have c56b1 : decide ((wrap64 (x8_1 + (ji52))) ≤ (l0.length : Int)) = true := decide_eq_true c56
                            by_cases c57 : y201.length + ((l0.take ((wrap64 (x8_1 + (ji52))) : Int).toNat).drop (x8_1 : Int).toNat).length < 140737488355328
                            · rw [if_pos c57] at H
                              have LMc57 := Aside0.mk c57
                              clear c57
                              obtain ⟨y205, hy205⟩ : ∃ y_ : List Int, y_ = (y201 ++ ((l0.take ((wrap64 (x8_1 + (ji52))) : Int).toNat).drop (x8_1 : Int).toNat)) := ⟨_, rfl⟩
                              replace H : (spec_Run.l0 kj6 l0 a1 a2 y205 (wrap64 (x8_1 + (ji52)))) = some r := by first | (rw [hy205]; with_reducible exact H) | (have H2_ := (Option.bind_some _ _).symm.trans H; rw [hy205]; with_reducible exact H2_) | (have H2_ := (Option.bind_some _ _).symm.trans H; with_reducible exact H2_) | with_reducible exact H | (rw [hy205]; exact H) | exact H
                              have Ny205 := Aside0.mk hy205
                              clear hy205
                              have H' := Aside0.mk H
                              clear H
                              try go_wp2_with (first | ((with_reducible refine gate_builtin (b := .append) (xs := #[.tmp 43, .tmp 44]) rfl ?_); at_builtin; refine Kd.R_append (Kd.int .u8) (w0 := w) w.heap.size rfl (.tmp 43) (.tmp 44) 26 5 (.int .u8 0) 1 rfl Tryd.underlying26 info5 rfl (by decide) (by omega) u7 x7_1 128 [.int .u8 128] (fun _ => True) (fun _ => False) rfl rfl ?aP (fun _ hk => hk.elim) ?aF ?aO ?aB ?aS ?aL ?_; (case aP => exact rfl); (case aB => exact (by repeat (first | (with_reducible first | exact HB.out | apply below_alloc | apply pw_below_drewN | apply below_drew1) | exact HB.out))); (case aF => exact (fun _ _ => trivial)); (case aO => exact (by (with_reducible repeat (first | apply Kd.R_alloc | apply Kd.R_drewN | apply Kd.R_drew)); exact HO_7.out)); (case aS => exact (below_size (by repeat (first | (with_reducible first | exact HB.out | apply below_alloc | apply pw_below_drewN | apply below_drew1) | exact HB.out)))); (case aL => have := LMc49.out; omega); intro v199 w58 ho hb hg hat; rw [← Ny198.out] at ho; have n0_ := Aside0.mk (hb); have n1_ := Aside0.mk (ho); clear HB; clear HO_7; have HB := n0_; have HO200 := n1_; clear n0_ n1_; clear ho hb hg hat))
                              have n0_ := Aside0.mk (Kd.R_drew HO200.out)
                              have n1_ := Aside0.mk (below_drew1 HB.out)
                              clear HO200
                              clear HB
                              have HO200 := n0_
                              have HB := n1_
                              clear n0_ n1_
                              obtain ⟨i060, hi060, _, hsz60, _⟩ := info_parts info5
                              obtain ⟨A60, hcut60, hA60, hC60⟩ := print_mid_of (P := Tryd.prog) (Value.int .u8) 0 26 5 .i64 .i64 Tryd.underlying26 hi060 hsz60 A0 c0 l0 x8_1 (wrap64 (x8_1 + (ji52))) (of_decide_eq_true (by first | (with_reducible assumption) | assumption)) (by first | omega | exact of_decide_eq_true (by first | (with_reducible assumption) | assumption)) (of_decide_eq_true (by first | (with_reducible assumption) | assumption)) HC0.out
                              have HR204 := Aside0.mk (Kd.C_of_reads (h1 := fun _ => rfl) (hA60 _ (Kd.reads_of_C HR0.out)))
                              have HC204 := Aside0.mk hC60
                              clear hA60 hC60 hi060 hsz60
                              refine start_ (n := 14) (S := fun w' => True) (ds := []) #[false, false, false, false, false, false, false, false, false, false, false, false, false, false] (by kernel_rfl) rfl rfl trivial (fun hHeld => ?_); refine with_tabW spec_Run.tab13 spec_Run.bits13 (fun HT_ HW_ => ?_)
                              generalize w58.drew = w59 at HO200 HB HR204 hHeld ⊢
                              refine pure_ (i := 0) (N := some 72) (v := ?_) (a' := ?_) #[true, false, false, false, false, false, false, false, false, false, false, false, false, false] rfl rfl (any_of HT_.out (by kernel_rfl)) (fun _ _ _ h => h) (Or.inl ⟨by rfl, ?_⟩) ?_ ?_
                              rotate_left
                              · intro w'
                                go_simp
                                with_reducible rfl
                              rotate_left
                              · simp only [Act.put, List.setIfInBounds_toArray, List.set_cons_zero, List.set_cons_succ, i64_w, i32_w]
                                rfl
                              refine pure_ (i := 1) (N := some 73) (v := ?_) (a' := ?_) #[true, true, false, false, false, false, false, false, false, false, false, false, false, false] rfl rfl (any_of HT_.out (by kernel_rfl)) (fun _ _ _ h => h) (Or.inl ⟨by rfl, ?_⟩) ?_ ?_
                              rotate_left
                              · intro w'
                                go_simp
                                with_reducible rfl
                              rotate_left
                              · simp only [Act.put, List.setIfInBounds_toArray, List.set_cons_zero, List.set_cons_succ, i64_w, i32_w]
                                rfl
                              refine pure_ (i := 2) (N := some 74) (v := ?_) (a' := ?_) #[true, true, true, false, false, false, false, false, false, false, false, false, false, false] rfl rfl (any_of HT_.out (by kernel_rfl)) (fun _ _ _ h => h) (Or.inl ⟨by rfl, ?_⟩) ?_ ?_
                              rotate_left
                              · intro w'
                                go_simp
                                with_reducible rfl
                              rotate_left
                              · simp only [Act.put, List.setIfInBounds_toArray, List.set_cons_zero, List.set_cons_succ, i64_w, i32_w]
                                rfl
                              refine pure_ (i := 3) (N := some 75) (v := ?_) (a' := ?_) #[true, true, true, true, false, false, false, false, false, false, false, false, false, false] rfl rfl (any_of HT_.out (by kernel_rfl)) (fun _ _ _ h => h) (Or.inl ⟨by rfl, ?_⟩) ?_ ?_
                              rotate_left
                              · intro w'
                                go_simp
                                with_reducible rfl
                              rotate_left
                              · simp only [Act.put, List.setIfInBounds_toArray, List.set_cons_zero, List.set_cons_succ, i64_w, i32_w]
                                rfl
                              refine pure_ (i := 6) (N := some 78) (v := ?_) (a' := ?_) #[true, true, true, true, false, false, true, false, false, false, false, false, false, false] rfl rfl (any_of HT_.out (by kernel_rfl)) (fun _ _ _ h => h) (Or.inl ⟨by rfl, ?_⟩) ?_ ?_
                              rotate_left
                              · intro w'
                                go_simp
                                with_reducible rfl
                              rotate_left
                              · simp only [Act.put, List.setIfInBounds_toArray, List.set_cons_zero, List.set_cons_succ, i64_w, i32_w]
                                rfl
                              refine pure_ (i := 7) (N := some 79) (v := ?_) (a' := ?_) #[true, true, true, true, false, false, true, true, false, false, false, false, false, false] rfl rfl (any_of HT_.out (by kernel_rfl)) (fun _ _ _ h => h) (Or.inl ⟨by rfl, ?_⟩) ?_ ?_
                              rotate_left
                              · intro w'
                                go_simp
                                with_reducible rfl
                              rotate_left
                              · simp only [Act.put, List.setIfInBounds_toArray, List.set_cons_zero, List.set_cons_succ, i64_w, i32_w]
                                rfl
                              refine pure_ (i := 8) (N := some 80) (v := ?_) (a' := ?_) #[true, true, true, true, false, false, true, true, true, false, false, false, false, false] rfl rfl (any_of HT_.out (by kernel_rfl)) (fun _ _ _ h => h) (Or.inl ⟨by rfl, ?_⟩) ?_ ?_
                              rotate_left
                              · intro w'
                                go_simp
                                with_reducible rfl
                              rotate_left
                              · simp only [Act.put, List.setIfInBounds_toArray, List.set_cons_zero, List.set_cons_succ, i64_w, i32_w]
                                rfl
                              refine pure_ (i := 9) (N := some 81) (v := ?_) (a' := ?_) #[true, true, true, true, false, false, true, true, true, true, false, false, false, false] rfl rfl (any_of HT_.out (by kernel_rfl)) (fun _ _ _ h => h) (Or.inl ⟨by rfl, ?_⟩) ?_ ?_
                              rotate_left
                              · intro w'
                                go_simp
                                with_reducible rfl
                              rotate_left
                              · simp only [Act.put, List.setIfInBounds_toArray, List.set_cons_zero, List.set_cons_succ, i64_w, i32_w]
                                rfl
                              refine pure_ (i := 10) (N := some 82) (v := ?_) (a' := ?_) #[true, true, true, true, false, false, true, true, true, true, true, false, false, false] rfl rfl (any_of HT_.out (by kernel_rfl)) (fun _ _ _ h => h) (Or.inl ⟨by rfl, ?_⟩) ?_ ?_
                              rotate_left
                              · intro w'
                                go_simp
                                with_reducible rfl
                              rotate_left
                              · simp only [Act.put, List.setIfInBounds_toArray, List.set_cons_zero, List.set_cons_succ, i64_w, i32_w]
                                rfl
                              refine pure_ (i := 11) (N := some 83) (v := ?_) (a' := ?_) #[true, true, true, true, false, false, true, true, true, true, true, true, false, false] rfl rfl (any_of HT_.out (by kernel_rfl)) (fun _ _ _ h => h) (Or.inl ⟨by rfl, ?_⟩) ?_ ?_
                              rotate_left
                              · intro w'
                                go_simp
                                with_reducible rfl
                              rotate_left
                              · simp only [Act.put, List.setIfInBounds_toArray, List.set_cons_zero, List.set_cons_succ, i64_w, i32_w]
                                rfl
                              refine one_ (i := 4) (N := some 76) #[true, true, true, true, true, false, true, true, true, true, true, true, false, false] rfl rfl (one_of HT_.out (by kernel_rfl)) (by decide) (fun K hK => ?_)
                              refine value_ (w1 := ?_) (v := ?_) (by rfl) rfl ?_ ?_
                              rotate_left 2
                              · go_simp
                                constructor
                                · rfl
                                · rfl
                              refine hK.out _ _ trivial (fun hHeld => ?_)
                              clear hK K
                              refine norm_ (a' := ?_) ?_ ?_
                              rotate_left
                              · show Act.put _ (some 76) _ = _
                                simp only [Act.put, List.setIfInBounds_toArray, List.set_cons_zero, List.set_cons_succ, i64_w, i32_w]
                                rfl
                              refine one_ (i := 5) (N := some 77) #[true, true, true, true, true, true, true, true, true, true, true, true, false, false] rfl rfl (one_of HT_.out (by kernel_rfl)) (by decide) (fun K hK => ?_)
                              refine Kd.R_append_step (Kd.int .u8) (w0 := w) w.heap.size (by rfl) (.tmp 72) (.tmp 76) 26 5 (.int .u8 0) 1 rfl Tryd.underlying26 info5 rfl (by decide) (by omega) v199 y198 ((wrap64 ((ji52) - 1)) % 256) [.int .u8 ((wrap64 ((ji52) - 1)) % 256)] (fun _ => True) (fun _ => False) rfl rfl ?aP (fun _ hk => hk.elim) ?aF ?aO ?aB ?aS ?aL ?_
                              (case aP => exact rfl)
                              (case aB => exact (by repeat (first | (with_reducible first | exact HB.out | apply below_alloc | apply pw_below_drewN | apply below_drew1) | exact HB.out)))
                              (case aF => exact (fun _ _ => trivial))
                              (case aO => exact (by (with_reducible repeat (first | apply Kd.R_alloc | apply Kd.R_drewN | apply Kd.R_drew)); exact HO200.out))
                              (case aS => exact (below_size (by repeat (first | (with_reducible first | exact HB.out | apply below_alloc | apply pw_below_drewN | apply below_drew1) | exact HB.out))))
                              (case aL => have := LMc53.out; omega)
                              intro v202 w61 ho hb hg hat
                              rw [← Ny201.out] at ho
                              have n0_ := Aside0.mk (hb)
                              have n1_ := Aside0.mk (ho)
                              clear HB
                              clear HO200
                              have HB := n0_
                              have HO203 := n1_
                              clear n0_ n1_
                              clear ho hb hg hat
                              refine hK.out _ _ trivial (fun hHeld => ?_)
                              clear hK K
                              refine norm_ (a' := ?_) ?_ ?_
                              rotate_left
                              · show Act.put _ (some 77) _ = _
                                simp only [Act.put, List.setIfInBounds_toArray, List.set_cons_zero, List.set_cons_succ, i64_w, i32_w]
                                rfl
                              refine one_ (i := 12) (N := some 84) #[true, true, true, true, true, true, true, true, true, true, true, true, true, false] rfl rfl (one_of HT_.out (by kernel_rfl)) (by decide) (fun K hK => ?_)
                              refine Kd.R_append_rows_step (Kd.int .u8) (w0 := w) w.heap.size (by rfl) (.tmp 77) (.tmp 83) 26 5 (.int .u8 0) 1 rfl Tryd.underlying26 info5 rfl (by decide) (by omega) v202 y201 ((l0.take ((wrap64 (x8_1 + (ji52))) : Int).toNat).drop (x8_1 : Int).toNat) _ _ _ (fun _ => True) (fun _ => False) rfl rfl ?aO ?aR (fun _ _ h => h) (fun _ h => h.elim) ?aF ?aB ?aS ?aL ?_
                              (case aR => first | (rw [← show ((l0.take ((wrap64 (x8_1 + (ji52))) : Int).toNat).drop (x8_1 : Int).toNat).length = ((wrap64 (x8_1 + (ji52))).toNat - x8_1.toNat) from (by rw [List.length_drop, List.length_take]; have h_ : ((wrap64 (x8_1 + (ji52))) : Int) ≤ (l0.length : Int) := of_decide_eq_true (by first | (with_reducible assumption) | assumption); omega)]; repeat (first | exact (Kd.C_below HR204.out HB.out) | (with_reducible refine Kd.C_alloc ?_ _) | (with_reducible refine Kd.C_drewN ?_ _) | (with_reducible refine Kd.C_drew ?_))) | (repeat (first | exact (Kd.C_below HR204.out HB.out) | (with_reducible refine Kd.C_alloc ?_ _) | (with_reducible refine Kd.C_drewN ?_ _) | (with_reducible refine Kd.C_drew ?_))))
                              (case aB => exact (by repeat (first | (with_reducible first | exact HB.out | apply below_alloc | apply pw_below_drewN | apply below_drew1) | exact HB.out)))
                              (case aF => exact (fun _ _ => trivial))
                              (case aO => exact (by (with_reducible repeat (first | apply Kd.R_alloc | apply Kd.R_drewN | apply Kd.R_drew)); exact HO203.out))
                              (case aS => exact (below_size (by repeat (first | (with_reducible first | exact HB.out | apply below_alloc | apply pw_below_drewN | apply below_drew1) | exact HB.out))))
                              (case aL => have := LMc57.out; have hlx_ := (show ((l0.take ((wrap64 (x8_1 + (ji52))) : Int).toNat).drop (x8_1 : Int).toNat).length = ((wrap64 (x8_1 + (ji52))).toNat - x8_1.toNat) from (by rw [List.length_drop, List.length_take]; have h_ : ((wrap64 (x8_1 + (ji52))) : Int) ≤ (l0.length : Int) := of_decide_eq_true (by first | (with_reducible assumption) | assumption); omega)); omega)
                              intro v206 w62 ho hb hg hat
                              rw [← Ny205.out] at ho
                              have n0_ := Aside0.mk (hb)
                              have n1_ := Aside0.mk (ho)
                              clear HB
                              clear HO203
                              have HB := n0_
                              have HO207 := n1_
                              clear n0_ n1_
                              clear ho hb hg hat
                              refine hK.out _ _ trivial (fun hHeld => ?_)
                              clear hK K
                              refine norm_ (a' := ?_) ?_ ?_
                              rotate_left
                              · show Act.put _ (some 84) _ = _
                                simp only [Act.put, List.setIfInBounds_toArray, List.set_cons_zero, List.set_cons_succ, i64_w, i32_w]
                                rfl
                              refine pure_ (i := 13) (N := some 7) (v := ?_) (a' := ?_) #[true, true, true, true, true, true, true, true, true, true, true, true, true, true] rfl rfl (any_of HT_.out (by kernel_rfl)) (fun _ _ _ h => h) (Or.inl ⟨by rfl, ?_⟩) ?_ ?_
                              rotate_left
                              · intro w'
                                go_simp
                                with_reducible rfl
                              rotate_left
                              · simp only [Act.put, List.setIfInBounds_toArray, List.set_cons_zero, List.set_cons_succ, i64_w, i32_w]
                                rfl
                              refine done_ (done_of HT_.out (by kernel_rfl)) ?_
                              try go_wp2
                              go_roundg kj6
                              case measure => have := HK1.out; have := HJ6.out; omega
                              case rel => exact ⟨(y205), (wrap64 (x8_1 + (ji52))), (by first | rfl | (simp; done) | (simp only [← hji52] <;> (first | rfl | simp)) | (simp [*]; done)), H', ⟨by have := HK1.out; have := HJ6.out; omega⟩, ⟨by (with_reducible repeat (first | apply Kd.R_alloc | apply Kd.R_drewN | apply Kd.R_drew)); exact HO207.out⟩, ⟨by repeat (first | (with_reducible first | exact HB.out | apply below_alloc | apply pw_below_drewN | apply below_drew1) | exact HB.out)⟩⟩
                            · rw [if_neg c57] at H
                              exact absurd H (by simp)
                          · rw [if_neg c56] at H
                            exact absurd H (by simp)
                        · rw [if_neg c55] at H
                          exact absurd H (by simp)
                      · rw [if_neg c54] at H
                        exact absurd H (by simp)
                    · rw [if_neg c53] at H
                      exact absurd H (by simp)
                  · rw [if_neg c51] at H
                    have c51b0 : ((Go.bits .and .i64 a2 1) == 0) = false := beq_eq_false_iff_ne.mpr c51
                    have c51b1 : ((Go.bits .and .i64 a2 1) != 0) = true := bne_iff_ne.mpr c51
                    by_cases c63 : 0 ≤ x8_1
                    · rw [if_pos c63] at H
                      have c63b0 : decide (0 ≤ x8_1) = true := decide_eq_true c63
                      clear c63
                      by_cases c64 : x8_1 < (l0.length : Int)
                      · rw [if_pos c64] at H
                        have c64b0 : decide (x8_1 < (l0.length : Int)) = true := decide_eq_true c64
                        clear c64
                        obtain ⟨y209, hy209⟩ : ∃ y_ : List Int, y_ = (([(wrap64 (257 - x9_6)) % 256, rd l0 x8_1] : List Int)) := ⟨_, rfl⟩
                        replace H : (if y198.length + y209.length < 140737488355328 then (spec_Run.l0 kj6 l0 a1 a2 (y198 ++ y209) (wrap64 (x8_1 + x9_6))) else (none)) = some r := by first | (rw [hy209]; with_reducible exact H) | (have H2_ := (Option.bind_some _ _).symm.trans H; rw [hy209]; with_reducible exact H2_) | (have H2_ := (Option.bind_some _ _).symm.trans H; with_reducible exact H2_) | with_reducible exact H | (rw [hy209]; exact H) | exact H
                        have Ny209 := Aside0.mk hy209
                        clear hy209
                        by_cases c65 : y198.length + y209.length < 140737488355328
                        · rw [if_pos c65] at H
                          have LMc65 := Aside0.mk c65
                          clear c65
                          obtain ⟨y212, hy212⟩ : ∃ y_ : List Int, y_ = (y198 ++ y209) := ⟨_, rfl⟩
                          replace H : (spec_Run.l0 kj6 l0 a1 a2 y212 (wrap64 (x8_1 + x9_6))) = some r := by first | (rw [hy212]; with_reducible exact H) | (have H2_ := (Option.bind_some _ _).symm.trans H; rw [hy212]; with_reducible exact H2_) | (have H2_ := (Option.bind_some _ _).symm.trans H; with_reducible exact H2_) | with_reducible exact H | (rw [hy212]; exact H) | exact H
                          have Ny212 := Aside0.mk hy212
                          clear hy212
                          have H' := Aside0.mk H
                          clear H
                          go_wp2_with (first | ((with_reducible refine gate_builtin (b := .append) (xs := #[.tmp 43, .tmp 44]) rfl ?_); at_builtin; refine Kd.R_append (Kd.int .u8) (w0 := w) w.heap.size rfl (.tmp 43) (.tmp 44) 26 5 (.int .u8 0) 1 rfl Tryd.underlying26 info5 rfl (by decide) (by omega) u7 x7_1 128 [.int .u8 128] (fun _ => True) (fun _ => False) rfl rfl ?aP (fun _ hk => hk.elim) ?aF ?aO ?aB ?aS ?aL ?_; (case aP => exact rfl); (case aB => exact (by repeat (first | (with_reducible first | exact HB.out | apply below_alloc | apply pw_below_drewN | apply below_drew1) | exact HB.out))); (case aF => exact (fun _ _ => trivial)); (case aO => exact (by (with_reducible repeat (first | apply Kd.R_alloc | apply Kd.R_drewN | apply Kd.R_drew)); exact HO_7.out)); (case aS => exact (below_size (by repeat (first | (with_reducible first | exact HB.out | apply below_alloc | apply pw_below_drewN | apply below_drew1) | exact HB.out)))); (case aL => have := LMc49.out; omega); intro v199 w66 ho hb hg hat; rw [← Ny198.out] at ho; have n0_ := Aside0.mk (hb); have n1_ := Aside0.mk (ho); clear HB; clear HO_7; have HB := n0_; have HO200 := n1_; clear n0_ n1_; clear ho hb hg hat; have p208 : 0 ≤ (x8_1 : Int) := of_decide_eq_true (by first | (with_reducible assumption) | assumption); have q208 : x8_1 < (l0.length : Int) := of_decide_eq_true (by first | (with_reducible assumption) | assumption); obtain ⟨ad208, e208, hx208_0⟩ := Kd.at_int HR0.out x8_1 p208 q208; cases e208; replace hx208_0 := (HB.out.cell (World.block_lt_of_cell? w _ hx208_0)).trans hx208_0; replace p208 := eq_true p208; replace q208 := eq_true q208) | ((with_reducible refine gate_dst (N := 61) rfl ?_); refine Kd.R_lit (Kd.int .u8) _ 5 ?hg (N := 61) ?hd (xs := ([(wrap64 (257 - x9_6)) % 256, rd l0 x8_1] : List Int)) (inner := [.int .u8 ((wrap64 (257 - x9_6)) % 256), .int .u8 (rd l0 x8_1)]) (ok := fun _ => True) (okp := fun _ => True) ?hr ?hp (fun _ hk => hk) trivial (Below.refl _ _) (Nat.le_refl _) (by simp) ?_; (case hd => rfl); (case hg => rfl); (case hr => first | (go_simp; done) | (go_simp; rfl)); (case hp => exact (Reps.one (show Kd.M (Kd.int .u8) _ _ _ ((wrap64 (257 - x9_6)) % 256) [.int .u8 ((wrap64 (257 - x9_6)) % 256)] from rfl) (Reps.one (show Kd.M (Kd.int .u8) _ _ _ (rd l0 x8_1) [.int .u8 (rd l0 x8_1)] from rfl) (Reps.none _ _)))); intro v210 w67 ho68 hb hg_ hnew_; clear hg_ hnew_; (first | rw [← Ny209.out] at ho68 | (simp only [Int.reduceToNat] at ho68; rw [← Ny209.out] at ho68)); have n0_ := Aside0.mk (Kd.R_elder' (by (with_reducible repeat (first | apply Kd.R_alloc | apply Kd.R_drewN | apply Kd.R_drew)); exact HO200.out) (Kd.R_base ho68) hb); have n1_ := Aside0.mk (Kd.R_lower (Kd.R_new' ho68 (Kd.R_lt (by (with_reducible repeat (first | apply Kd.R_alloc | apply Kd.R_drewN | apply Kd.R_drew)); exact HO200.out))) (below_size (by repeat (first | (with_reducible first | exact HB.out | apply below_alloc | apply pw_below_drewN | apply below_drew1) | exact HB.out)))); have n2_ := Aside0.mk (below_step (by repeat (first | (with_reducible first | exact HB.out | apply below_alloc | apply pw_below_drewN | apply below_drew1) | exact HB.out)) hb); clear HO200; clear HB; have HO200 := n0_; have HO211 := n1_; have HB := n2_; clear n0_ n1_ n2_; clear hb ho68; obtain ⟨Ao70, co70, eo70⟩ := Kd.R_slice HO211.out; subst eo70) | ((with_reducible refine gate_builtin (b := .append) (xs := #[.tmp 53, .tmp 61]) rfl ?_); at_builtin; refine Kd.R_append_rows (Kd.int .u8) (w0 := w) w.heap.size rfl (.tmp 53) (.tmp 61) 26 5 (.int .u8 0) 1 rfl Tryd.underlying26 info5 rfl (by decide) (by omega) v199 y198 y209 _ _ _ (fun k_ => some k_ ≠ (.slice Ao70 y209.length co70 : Value).ownBlock) (fun _ => False) rfl rfl ?aO ?aR (fun _ _ h => h) (fun _ h => h.elim) ?aF ?aB ?aS ?aL ?_; (case aR => repeat (first | exact (Kd.R_reads' HO211.out).2.2 | (with_reducible refine Kd.C_alloc ?_ _) | (with_reducible refine Kd.C_drewN ?_ _) | (with_reducible refine Kd.C_drew ?_))); (case aB => exact (by repeat (first | (with_reducible first | exact HB.out | apply below_alloc | apply pw_below_drewN | apply below_drew1) | exact HB.out))); (case aF => exact (fun k_ hk => Kd.fresh' (Kd.R_lt (by (with_reducible repeat (first | apply Kd.R_alloc | apply Kd.R_drewN | apply Kd.R_drew)); exact HO211.out)) k_ hk)); (case aO => exact (by (with_reducible repeat (first | apply Kd.R_alloc | apply Kd.R_drewN | apply Kd.R_drew)); exact Kd.R_mono HO200.out (fun _ hk => hk.2))); (case aS => exact (below_size (by repeat (first | (with_reducible first | exact HB.out | apply below_alloc | apply pw_below_drewN | apply below_drew1) | exact HB.out)))); (case aL => have := LMc65.out; omega); intro v213 w69 ho hb hg hat; rw [← Ny212.out] at ho; have n0_ := Aside0.mk (Kd.R_after (ok := (fun _ => True)) (by (with_reducible repeat (first | apply Kd.R_alloc | apply Kd.R_drewN | apply Kd.R_drew)); exact HO211.out) hg hat); have n1_ := Aside0.mk (hb); have n2_ := Aside0.mk (ho); clear HO211; clear HB; clear HO200; have HO211 := n0_; have HB := n1_; have HO214 := n2_; clear n0_ n1_ n2_; clear ho hb hg hat))
                          go_roundg kj6
                          case measure => have := HK1.out; have := HJ6.out; omega
                          case rel => exact ⟨(y212), (wrap64 (x8_1 + x9_6)), (by first | rfl | (simp; done) | (simp [*]; done)), H', ⟨by have := HK1.out; have := HJ6.out; omega⟩, ⟨by (with_reducible repeat (first | apply Kd.R_alloc | apply Kd.R_drewN | apply Kd.R_drew)); exact Kd.R_mono HO214.out (fun _ hk => trivial)⟩, ⟨by repeat (first | (with_reducible first | exact HB.out | apply below_alloc | apply pw_below_drewN | apply below_drew1) | exact HB.out)⟩⟩
                        · rw [if_neg c65] at H
                          exact absurd H (by simp)
                      · rw [if_neg c64] at H
                        exact absurd H (by simp)
                    · rw [if_neg c63] at H
                      exact absurd H (by simp)
                · rw [if_neg c50] at H
                  have c50b0 : decide (1 < x9_6) = false := decide_eq_false c50
                  clear c50
                  obtain ⟨ji71, hji71⟩ : ∃ j_ : Int, (mn a1 (wrap64 ((l0.length : Int) - x8_1))) = j_ := ⟨_, rfl⟩
                  replace H : (if y198.length < 140737488355328 then ((some (y198 ++ [(wrap64 ((ji71) - 1)) % 256] : List Int)).bind fun y215 => (if 0 ≤ x8_1 then (if x8_1 ≤ (wrap64 (x8_1 + (ji71))) then (if (wrap64 (x8_1 + (ji71))) ≤ (l0.length : Int) then (if y215.length + ((l0.take ((wrap64 (x8_1 + (ji71))) : Int).toNat).drop (x8_1 : Int).toNat).length < 140737488355328 then (spec_Run.l0 kj6 l0 a1 a2 (y215 ++ ((l0.take ((wrap64 (x8_1 + (ji71))) : Int).toNat).drop (x8_1 : Int).toNat)) (wrap64 (x8_1 + (ji71)))) else (none)) else (none)) else (none)) else (none))) else (none)) = some r := by first | (rw [hji71] at H; exact H) | (simp only [hji71] at H ⊢; exact H)
                  have hji71_ : (if (wrap64 ((l0.length : Int) - x8_1)) < a1 then (wrap64 ((l0.length : Int) - x8_1)) else a1) = ji71 := hji71
                  by_cases c72 : y198.length < 140737488355328
                  · rw [if_pos c72] at H
                    have LMc72 := Aside0.mk c72
                    clear c72
                    obtain ⟨y215, hy215⟩ : ∃ y_ : List Int, y_ = (y198 ++ [(wrap64 ((ji71) - 1)) % 256]) := ⟨_, rfl⟩
                    replace H : (if 0 ≤ x8_1 then (if x8_1 ≤ (wrap64 (x8_1 + (ji71))) then (if (wrap64 (x8_1 + (ji71))) ≤ (l0.length : Int) then (if y215.length + ((l0.take ((wrap64 (x8_1 + (ji71))) : Int).toNat).drop (x8_1 : Int).toNat).length < 140737488355328 then (spec_Run.l0 kj6 l0 a1 a2 (y215 ++ ((l0.take ((wrap64 (x8_1 + (ji71))) : Int).toNat).drop (x8_1 : Int).toNat)) (wrap64 (x8_1 + (ji71)))) else (none)) else (none)) else (none)) else (none)) = some r := by first | (rw [hy215]; with_reducible exact H) | (have H2_ := (Option.bind_some _ _).symm.trans H; rw [hy215]; with_reducible exact H2_) | (have H2_ := (Option.bind_some _ _).symm.trans H; with_reducible exact H2_) | with_reducible exact H | (rw [hy215]; exact H) | exact H
                    have Ny215 := Aside0.mk hy215
                    clear hy215
                    by_cases c73 : 0 ≤ x8_1
                    · rw [if_pos c73] at H
                      have c73b0 := eq_true c73
                      have c73b1 : decide (0 ≤ x8_1) = true := decide_eq_true c73
                      clear c73
                      by_cases c74 : x8_1 ≤ (wrap64 (x8_1 + (ji71)))
                      · rw [if_pos c74] at H
                        have c74b0 := eq_true c74
                        have c74b1 : decide (x8_1 ≤ (wrap64 (x8_1 + (ji71)))) = true := decide_eq_true c74
                        by_cases c75 : (wrap64 (x8_1 + (ji71))) ≤ (l0.length : Int)
                        · rw [if_pos c75] at H
                          have c75b0 := eq_true c75
                          have c75b1 : decide ((wrap64 (x8_1 + (ji71))) ≤ (l0.length : Int)) = true := decide_eq_true c75
                          by_cases c76 : y215.length + ((l0.take ((wrap64 (x8_1 + (ji71))) : Int).toNat).drop (x8_1 : Int).toNat).length < 140737488355328
                          · rw [if_pos c76] at H
                            have LMc76 := Aside0.mk c76
                            clear c76
                            obtain ⟨y219, hy219⟩ : ∃ y_ : List Int, y_ = (y215 ++ ((l0.take ((wrap64 (x8_1 + (ji71))) : Int).toNat).drop (x8_1 : Int).toNat)) := ⟨_, rfl⟩
                            replace H : (spec_Run.l0 kj6 l0 a1 a2 y219 (wrap64 (x8_1 + (ji71)))) = some r := by first | (rw [hy219]; with_reducible exact H) | (have H2_ := (Option.bind_some _ _).symm.trans H; rw [hy219]; with_reducible exact H2_) | (have H2_ := (Option.bind_some _ _).symm.trans H; with_reducible exact H2_) | with_reducible exact H | (rw [hy219]; exact H) | exact H
                            have Ny219 := Aside0.mk hy219
                            clear hy219
                            have H' := Aside0.mk H
                            clear H
                            try go_wp2_with (first | ((with_reducible refine gate_builtin (b := .append) (xs := #[.tmp 43, .tmp 44]) rfl ?_); at_builtin; refine Kd.R_append (Kd.int .u8) (w0 := w) w.heap.size rfl (.tmp 43) (.tmp 44) 26 5 (.int .u8 0) 1 rfl Tryd.underlying26 info5 rfl (by decide) (by omega) u7 x7_1 128 [.int .u8 128] (fun _ => True) (fun _ => False) rfl rfl ?aP (fun _ hk => hk.elim) ?aF ?aO ?aB ?aS ?aL ?_; (case aP => exact rfl); (case aB => exact (by repeat (first | (with_reducible first | exact HB.out | apply below_alloc | apply pw_below_drewN | apply below_drew1) | exact HB.out))); (case aF => exact (fun _ _ => trivial)); (case aO => exact (by (with_reducible repeat (first | apply Kd.R_alloc | apply Kd.R_drewN | apply Kd.R_drew)); exact HO_7.out)); (case aS => exact (below_size (by repeat (first | (with_reducible first | exact HB.out | apply below_alloc | apply pw_below_drewN | apply below_drew1) | exact HB.out)))); (case aL => have := LMc49.out; omega); intro v199 w77 ho hb hg hat; rw [← Ny198.out] at ho; have n0_ := Aside0.mk (hb); have n1_ := Aside0.mk (ho); clear HB; clear HO_7; have HB := n0_; have HO200 := n1_; clear n0_ n1_; clear ho hb hg hat))
                            have n0_ := Aside0.mk (Kd.R_drew HO200.out)
                            have n1_ := Aside0.mk (below_drew1 HB.out)
                            clear HO200
                            clear HB
                            have HO200 := n0_
                            have HB := n1_
                            clear n0_ n1_
                            obtain ⟨i079, hi079, _, hsz79, _⟩ := info_parts info5
                            obtain ⟨A79, hcut79, hA79, hC79⟩ := print_mid_of (P := Tryd.prog) (Value.int .u8) 0 26 5 .i64 .i64 Tryd.underlying26 hi079 hsz79 A0 c0 l0 x8_1 (wrap64 (x8_1 + (ji71))) (of_decide_eq_true (by first | (with_reducible assumption) | assumption)) (by first | omega | exact of_decide_eq_true (by first | (with_reducible assumption) | assumption)) (of_decide_eq_true (by first | (with_reducible assumption) | assumption)) HC0.out
                            have HR218 := Aside0.mk (Kd.C_of_reads (h1 := fun _ => rfl) (hA79 _ (Kd.reads_of_C HR0.out)))
                            have HC218 := Aside0.mk hC79
                            clear hA79 hC79 hi079 hsz79
                            refine start_ (n := 14) (S := fun w' => True) (ds := []) #[false, false, false, false, false, false, false, false, false, false, false, false, false, false] (by kernel_rfl) rfl rfl trivial (fun hHeld => ?_); refine with_tabW spec_Run.tab13 spec_Run.bits13 (fun HT_ HW_ => ?_)
                            generalize w77.drew = w78 at HO200 HB HR218 hHeld ⊢
                            refine pure_ (i := 0) (N := some 72) (v := ?_) (a' := ?_) #[true, false, false, false, false, false, false, false, false, false, false, false, false, false] rfl rfl (any_of HT_.out (by kernel_rfl)) (fun _ _ _ h => h) (Or.inl ⟨by rfl, ?_⟩) ?_ ?_
                            rotate_left
                            · intro w'
                              go_simp
                              with_reducible rfl
                            rotate_left
                            · simp only [Act.put, List.setIfInBounds_toArray, List.set_cons_zero, List.set_cons_succ, i64_w, i32_w]
                              rfl
                            refine pure_ (i := 1) (N := some 73) (v := ?_) (a' := ?_) #[true, true, false, false, false, false, false, false, false, false, false, false, false, false] rfl rfl (any_of HT_.out (by kernel_rfl)) (fun _ _ _ h => h) (Or.inl ⟨by rfl, ?_⟩) ?_ ?_
                            rotate_left
                            · intro w'
                              go_simp
                              with_reducible rfl
                            rotate_left
                            · simp only [Act.put, List.setIfInBounds_toArray, List.set_cons_zero, List.set_cons_succ, i64_w, i32_w]
                              rfl
                            refine pure_ (i := 2) (N := some 74) (v := ?_) (a' := ?_) #[true, true, true, false, false, false, false, false, false, false, false, false, false, false] rfl rfl (any_of HT_.out (by kernel_rfl)) (fun _ _ _ h => h) (Or.inl ⟨by rfl, ?_⟩) ?_ ?_
                            rotate_left
                            · intro w'
                              go_simp
                              with_reducible rfl
                            rotate_left
                            · simp only [Act.put, List.setIfInBounds_toArray, List.set_cons_zero, List.set_cons_succ, i64_w, i32_w]
                              rfl
                            refine pure_ (i := 3) (N := some 75) (v := ?_) (a' := ?_) #[true, true, true, true, false, false, false, false, false, false, false, false, false, false] rfl rfl (any_of HT_.out (by kernel_rfl)) (fun _ _ _ h => h) (Or.inl ⟨by rfl, ?_⟩) ?_ ?_
                            rotate_left
                            · intro w'
                              go_simp
                              with_reducible rfl
                            rotate_left
                            · simp only [Act.put, List.setIfInBounds_toArray, List.set_cons_zero, List.set_cons_succ, i64_w, i32_w]
                              rfl
                            refine pure_ (i := 6) (N := some 78) (v := ?_) (a' := ?_) #[true, true, true, true, false, false, true, false, false, false, false, false, false, false] rfl rfl (any_of HT_.out (by kernel_rfl)) (fun _ _ _ h => h) (Or.inl ⟨by rfl, ?_⟩) ?_ ?_
                            rotate_left
                            · intro w'
                              go_simp
                              with_reducible rfl
                            rotate_left
                            · simp only [Act.put, List.setIfInBounds_toArray, List.set_cons_zero, List.set_cons_succ, i64_w, i32_w]
                              rfl
                            refine pure_ (i := 7) (N := some 79) (v := ?_) (a' := ?_) #[true, true, true, true, false, false, true, true, false, false, false, false, false, false] rfl rfl (any_of HT_.out (by kernel_rfl)) (fun _ _ _ h => h) (Or.inl ⟨by rfl, ?_⟩) ?_ ?_
                            rotate_left
                            · intro w'
                              go_simp
                              with_reducible rfl
                            rotate_left
                            · simp only [Act.put, List.setIfInBounds_toArray, List.set_cons_zero, List.set_cons_succ, i64_w, i32_w]
                              rfl
                            refine pure_ (i := 8) (N := some 80) (v := ?_) (a' := ?_) #[true, true, true, true, false, false, true, true, true, false, false, false, false, false] rfl rfl (any_of HT_.out (by kernel_rfl)) (fun _ _ _ h => h) (Or.inl ⟨by rfl, ?_⟩) ?_ ?_
                            rotate_left
                            · intro w'
                              go_simp
                              with_reducible rfl
                            rotate_left
                            · simp only [Act.put, List.setIfInBounds_toArray, List.set_cons_zero, List.set_cons_succ, i64_w, i32_w]
                              rfl
                            refine pure_ (i := 9) (N := some 81) (v := ?_) (a' := ?_) #[true, true, true, true, false, false, true, true, true, true, false, false, false, false] rfl rfl (any_of HT_.out (by kernel_rfl)) (fun _ _ _ h => h) (Or.inl ⟨by rfl, ?_⟩) ?_ ?_
                            rotate_left
                            · intro w'
                              go_simp
                              with_reducible rfl
                            rotate_left
                            · simp only [Act.put, List.setIfInBounds_toArray, List.set_cons_zero, List.set_cons_succ, i64_w, i32_w]
                              rfl
                            refine pure_ (i := 10) (N := some 82) (v := ?_) (a' := ?_) #[true, true, true, true, false, false, true, true, true, true, true, false, false, false] rfl rfl (any_of HT_.out (by kernel_rfl)) (fun _ _ _ h => h) (Or.inl ⟨by rfl, ?_⟩) ?_ ?_
                            rotate_left
                            · intro w'
                              go_simp
                              with_reducible rfl
                            rotate_left
                            · simp only [Act.put, List.setIfInBounds_toArray, List.set_cons_zero, List.set_cons_succ, i64_w, i32_w]
                              rfl
                            refine pure_ (i := 11) (N := some 83) (v := ?_) (a' := ?_) #[true, true, true, true, false, false, true, true, true, true, true, true, false, false] rfl rfl (any_of HT_.out (by kernel_rfl)) (fun _ _ _ h => h) (Or.inl ⟨by rfl, ?_⟩) ?_ ?_
                            rotate_left
                            · intro w'
                              go_simp
                              with_reducible rfl
                            rotate_left
                            · simp only [Act.put, List.setIfInBounds_toArray, List.set_cons_zero, List.set_cons_succ, i64_w, i32_w]
                              rfl
                            refine one_ (i := 4) (N := some 76) #[true, true, true, true, true, false, true, true, true, true, true, true, false, false] rfl rfl (one_of HT_.out (by kernel_rfl)) (by decide) (fun K hK => ?_)
                            refine value_ (w1 := ?_) (v := ?_) (by rfl) rfl ?_ ?_
                            rotate_left 2
                            · go_simp
                              constructor
                              · rfl
                              · rfl
                            refine hK.out _ _ trivial (fun hHeld => ?_)
                            clear hK K
                            refine norm_ (a' := ?_) ?_ ?_
                            rotate_left
                            · show Act.put _ (some 76) _ = _
                              simp only [Act.put, List.setIfInBounds_toArray, List.set_cons_zero, List.set_cons_succ, i64_w, i32_w]
                              rfl
                            refine one_ (i := 5) (N := some 77) #[true, true, true, true, true, true, true, true, true, true, true, true, false, false] rfl rfl (one_of HT_.out (by kernel_rfl)) (by decide) (fun K hK => ?_)
                            refine Kd.R_append_step (Kd.int .u8) (w0 := w) w.heap.size (by rfl) (.tmp 72) (.tmp 76) 26 5 (.int .u8 0) 1 rfl Tryd.underlying26 info5 rfl (by decide) (by omega) v199 y198 ((wrap64 ((ji71) - 1)) % 256) [.int .u8 ((wrap64 ((ji71) - 1)) % 256)] (fun _ => True) (fun _ => False) rfl rfl ?aP (fun _ hk => hk.elim) ?aF ?aO ?aB ?aS ?aL ?_
                            (case aP => exact rfl)
                            (case aB => exact (by repeat (first | (with_reducible first | exact HB.out | apply below_alloc | apply pw_below_drewN | apply below_drew1) | exact HB.out)))
                            (case aF => exact (fun _ _ => trivial))
                            (case aO => exact (by (with_reducible repeat (first | apply Kd.R_alloc | apply Kd.R_drewN | apply Kd.R_drew)); exact HO200.out))
                            (case aS => exact (below_size (by repeat (first | (with_reducible first | exact HB.out | apply below_alloc | apply pw_below_drewN | apply below_drew1) | exact HB.out))))
                            (case aL => have := LMc72.out; omega)
                            intro v216 w80 ho hb hg hat
                            rw [← Ny215.out] at ho
                            have n0_ := Aside0.mk (hb)
                            have n1_ := Aside0.mk (ho)
                            clear HB
                            clear HO200
                            have HB := n0_
                            have HO217 := n1_
                            clear n0_ n1_
                            clear ho hb hg hat
                            refine hK.out _ _ trivial (fun hHeld => ?_)
                            clear hK K
                            refine norm_ (a' := ?_) ?_ ?_
                            rotate_left
                            · show Act.put _ (some 77) _ = _
                              simp only [Act.put, List.setIfInBounds_toArray, List.set_cons_zero, List.set_cons_succ, i64_w, i32_w]
                              rfl
                            refine one_ (i := 12) (N := some 84) #[true, true, true, true, true, true, true, true, true, true, true, true, true, false] rfl rfl (one_of HT_.out (by kernel_rfl)) (by decide) (fun K hK => ?_)
                            refine Kd.R_append_rows_step (Kd.int .u8) (w0 := w) w.heap.size (by rfl) (.tmp 77) (.tmp 83) 26 5 (.int .u8 0) 1 rfl Tryd.underlying26 info5 rfl (by decide) (by omega) v216 y215 ((l0.take ((wrap64 (x8_1 + (ji71))) : Int).toNat).drop (x8_1 : Int).toNat) _ _ _ (fun _ => True) (fun _ => False) rfl rfl ?aO ?aR (fun _ _ h => h) (fun _ h => h.elim) ?aF ?aB ?aS ?aL ?_
                            (case aR => first | (rw [← show ((l0.take ((wrap64 (x8_1 + (ji71))) : Int).toNat).drop (x8_1 : Int).toNat).length = ((wrap64 (x8_1 + (ji71))).toNat - x8_1.toNat) from (by rw [List.length_drop, List.length_take]; have h_ : ((wrap64 (x8_1 + (ji71))) : Int) ≤ (l0.length : Int) := of_decide_eq_true (by first | (with_reducible assumption) | assumption); omega)]; repeat (first | exact (Kd.C_below HR218.out HB.out) | (with_reducible refine Kd.C_alloc ?_ _) | (with_reducible refine Kd.C_drewN ?_ _) | (with_reducible refine Kd.C_drew ?_))) | (repeat (first | exact (Kd.C_below HR218.out HB.out) | (with_reducible refine Kd.C_alloc ?_ _) | (with_reducible refine Kd.C_drewN ?_ _) | (with_reducible refine Kd.C_drew ?_))))
                            (case aB => exact (by repeat (first | (with_reducible first | exact HB.out | apply below_alloc | apply pw_below_drewN | apply below_drew1) | exact HB.out)))
                            (case aF => exact (fun _ _ => trivial))
                            (case aO => exact (by (with_reducible repeat (first | apply Kd.R_alloc | apply Kd.R_drewN | apply Kd.R_drew)); exact HO217.out))
                            (case aS => exact (below_size (by repeat (first | (with_reducible first | exact HB.out | apply below_alloc | apply pw_below_drewN | apply below_drew1) | exact HB.out))))
                            (case aL => have := LMc76.out; have hlx_ := (show ((l0.take ((wrap64 (x8_1 + (ji71))) : Int).toNat).drop (x8_1 : Int).toNat).length = ((wrap64 (x8_1 + (ji71))).toNat - x8_1.toNat) from (by rw [List.length_drop, List.length_take]; have h_ : ((wrap64 (x8_1 + (ji71))) : Int) ≤ (l0.length : Int) := of_decide_eq_true (by first | (with_reducible assumption) | assumption); omega)); omega)
                            intro v220 w81 ho hb hg hat
                            rw [← Ny219.out] at ho
                            have n0_ := Aside0.mk (hb)
                            have n1_ := Aside0.mk (ho)
                            clear HB
                            clear HO217
                            have HB := n0_
                            have HO221 := n1_
                            clear n0_ n1_
                            clear ho hb hg hat
                            refine hK.out _ _ trivial (fun hHeld => ?_)
                            clear hK K
                            refine norm_ (a' := ?_) ?_ ?_
                            rotate_left
                            · show Act.put _ (some 84) _ = _
                              simp only [Act.put, List.setIfInBounds_toArray, List.set_cons_zero, List.set_cons_succ, i64_w, i32_w]
                              rfl
                            refine pure_ (i := 13) (N := some 7) (v := ?_) (a' := ?_) #[true, true, true, true, true, true, true, true, true, true, true, true, true, true] rfl rfl (any_of HT_.out (by kernel_rfl)) (fun _ _ _ h => h) (Or.inl ⟨by rfl, ?_⟩) ?_ ?_
                            rotate_left
                            · intro w'
                              go_simp
                              with_reducible rfl
                            rotate_left
                            · simp only [Act.put, List.setIfInBounds_toArray, List.set_cons_zero, List.set_cons_succ, i64_w, i32_w]
                              rfl
                            refine done_ (done_of HT_.out (by kernel_rfl)) ?_
                            try go_wp2
                            go_roundg kj6
                            case measure => have := HK1.out; have := HJ6.out; omega
                            case rel => exact ⟨(y219), (wrap64 (x8_1 + (ji71))), (by first | rfl | (simp; done) | (simp only [← hji71] <;> (first | rfl | simp)) | (simp [*]; done)), H', ⟨by have := HK1.out; have := HJ6.out; omega⟩, ⟨by (with_reducible repeat (first | apply Kd.R_alloc | apply Kd.R_drewN | apply Kd.R_drew)); exact HO221.out⟩, ⟨by repeat (first | (with_reducible first | exact HB.out | apply below_alloc | apply pw_below_drewN | apply below_drew1) | exact HB.out)⟩⟩
                          · rw [if_neg c76] at H
                            exact absurd H (by simp)
                        · rw [if_neg c75] at H
                          exact absurd H (by simp)
                      · rw [if_neg c74] at H
                        exact absurd H (by simp)
                    · rw [if_neg c73] at H
                      exact absurd H (by simp)
                  · rw [if_neg c72] at H
                    exact absurd H (by simp)
              · rw [if_neg c49] at H
                exact absurd H (by simp)
      · rw [if_neg c6] at H
        have c6b0 : decide (x8_1 < (l0.length : Int)) = false := decide_eq_false c6
        clear c6
        obtain rfl := Option.some.inj H
        go_wp2
        go_ret
        exact ⟨_, by first | rfl | (simp [errW_none, errW_some] <;> rfl) | (simp [*, errW_none, errW_some] <;> rfl), by (with_reducible repeat (first | apply Kd.R_alloc | apply Kd.R_drewN | apply Kd.R_drew)); exact HO_7.out, by repeat (first | (with_reducible first | exact HB.out | apply below_alloc | apply pw_below_drewN | apply below_drew1) | exact HB.out)⟩

end Go.Proofs.YtnodmobblamlgaaDoor.PFnConfig
