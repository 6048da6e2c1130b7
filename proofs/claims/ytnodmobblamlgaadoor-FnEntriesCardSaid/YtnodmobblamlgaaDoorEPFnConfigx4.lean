/- Words that a printer of the kit wrote for this seat, cut down to what this proof uses. -/
import Derived.Test.YtnodmobblamlgaaDoorEPx01
namespace Go.Proofs.YtnodmobblamlgaaDoor.PFnConfig
open Go.RowKit Go.Proofs.YtnodmobblamlgaaDoorW.PrintWords Go.Proofs.YtnodmobblamlgaaDoorW.PrintLast Go.Proofs.YtnodmobblamlgaaDoorW.PrintMore
attribute [local go_sem] max2_int min2_int max_two min_two max_three min_three max_four min_four   -- for this text's walks alone
set_option linter.unusedVariables false
set_option linter.unusedSimpArgs false

-- NOT PRINTED: function 34 (spec_putMost_word)

/-! ### spec_lzwWidth: function 35 -/
def spec_lzwWidth.l0 : Nat → Int → Int → Option (Int)
  | 0, _, _ => none
  | k + 1, x0, x5 => if 0 ≤ x5 then (if x0 ≥ (wrap64 ((shl .i64 1 x5) - 1)) then (if x5 < 12 then (spec_lzwWidth.l0 k x0 (wrap64 (x5 + 1))) else (some x5)) else (some x5)) else (none)
def spec_lzwWidth.f (k : Nat) (a0 : Int) (a1 : Int) : Option (Int) := spec_lzwWidth.l0 k a0 (wrap64 (a1 + 1))
theorem spec_lzwWidth.mono_l : ∀ k, (∀ y0 y1, LeO (spec_lzwWidth.l0 k y0 y1) (spec_lzwWidth.l0 (k + 1) y0 y1))
  | 0 => fun _ _ r h => by simp [spec_lzwWidth.l0] at h
  | k + 1 => by
    have ih0 := spec_lzwWidth.mono_l k
    · intro y0 y1
      unfold spec_lzwWidth.l0
      repeat' first
      | (with_reducible exact ih0 _ _)
      | (with_reducible exact LeO.refl _)
      | (with_reducible exact LeO.none _)
      | (with_reducible refine LeO.ite ?_ ?_)
      | (with_reducible refine LeO.bind ?_ (fun _ => ?_))
      | exact ih0 _ _
      | exact LeO.none _
      | refine LeO.ite ?_ ?_
      | refine LeO.bind ?_ (fun _ => ?_)
theorem spec_lzwWidth.mono : ∀ a0 a1 k, LeO (spec_lzwWidth.f k a0 a1) (spec_lzwWidth.f (k + 1) a0 a1) := by
  intro a0 a1 k
  have ih0 := spec_lzwWidth.mono_l k
  unfold spec_lzwWidth.f
  repeat' first
      | (with_reducible exact ih0 _ _)
      | (with_reducible exact LeO.refl _)
      | (with_reducible exact LeO.none _)
      | (with_reducible refine LeO.ite ?_ ?_)
      | (with_reducible refine LeO.bind ?_ (fun _ => ?_))
      | exact ih0 _ _
      | exact LeO.none _
      | refine LeO.ite ?_ ?_
      | refine LeO.bind ?_ (fun _ => ?_)
set_option maxHeartbeats 8000000 in
set_option maxRecDepth 100000 in
theorem spec_lzwWidth.calls (k : Nat) (a0 : Int) (a1 : Int) (r : Int) (w : World) (h : spec_lzwWidth.f k a0 a1 = some r) :
    Calls Tryd.prog 35 #[.int .i64 a0, .int .i64 a1] w fun e w' => e = .returned (.int .i64 r) ∧ Drawn0 w w' := by
  have H : (spec_lzwWidth.l0 k a0 (wrap64 (a1 + 1))) = some r := h
  clear h
  have H' := Aside0.mk H
  clear H
  go_enter Tryd.func35, Tryd.ntmps35
  go_wp2
  go_loopg [5] k (fun kq v5 w' => ∃ (x5_1 : Int), v5 = .int .i64 x5_1 ∧ Aside0 (spec_lzwWidth.l0 kq a0 x5_1 = some r) ∧ Aside0 (kq ≤ k) ∧ Drawn0 w w')
  case atStart => exact ⟨(wrap64 (a1 + 1)), (by first | rfl | (simp; done) | (simp [*]; done)), H', ⟨Nat.le_refl _⟩, by repeat (first | exact Drawn0.refl _ | apply Drawn0.step)⟩
  case round =>
    clear H'
    try clear p2
    obtain ⟨x5_1, rfl, HA, HK1, ⟨m1, rfl⟩⟩ := hrel
    cases gk with
    | zero => exact absurd HA.out (by simp [spec_lzwWidth.l0])
    | succ k1 =>
      have H := HA.out
      clear HA
      simp only [spec_lzwWidth.l0] at H
      by_cases c3 : 0 ≤ x5_1
      · rw [if_pos c3] at H
        have c3b0 := eq_true c3
        have c3b1 : decide (0 ≤ x5_1) = true := decide_eq_true c3
        clear c3
        obtain ⟨ji4, hji4⟩ : ∃ j_ : Int, (shl .i64 1 x5_1) = j_ := ⟨_, rfl⟩
        replace H : (if a0 ≥ (wrap64 ((ji4) - 1)) then (if x5_1 < 12 then (spec_lzwWidth.l0 k1 a0 (wrap64 (x5_1 + 1))) else (some x5_1)) else (some x5_1)) = some r := by first | (rw [hji4] at H; exact H) | (simp only [hji4] at H ⊢; exact H)
        have hji4_ : (IntKind.i64.wrap (1 * 2 ^ min x5_1.toNat 64)) = ji4 := hji4
        have hji4z : x5_1 ≤ 64 → (IntKind.i64.wrap (1 * 2 ^ x5_1.toNat)) = ji4 := shl_small hji4
        have hji4u : (IntKind.i64.wrap (2 ^ min x5_1.toNat 64)) = ji4 := by have h_ := hji4_; rw [Int.one_mul] at h_; exact h_
        have hji4v : x5_1 ≤ 64 → (IntKind.i64.wrap (2 ^ x5_1.toNat)) = ji4 := fun hle_ => by have h_ := hji4z hle_; rw [Int.one_mul] at h_; exact h_
        have hji4y : (wrap64 (1 * 2 ^ min x5_1.toNat 64)) = ji4 := (i64_w _).symm.trans hji4_
        have hji4x : x5_1 ≤ 64 → (wrap64 (1 * 2 ^ x5_1.toNat)) = ji4 := fun h_ => (i64_w _).symm.trans (hji4z h_)
        by_cases c5 : a0 ≥ (wrap64 ((ji4) - 1))
        · rw [if_pos c5] at H
          have c5b0 : decide ((wrap64 ((ji4) - 1)) ≤ a0) = true := decide_eq_true c5
          clear c5
          by_cases c6 : x5_1 < 12
          · rw [if_pos c6] at H
            have c6b0 : decide (x5_1 < 12) = true := decide_eq_true c6
            clear c6
            have H' := Aside0.mk H
            clear H
            go_wp2
            go_roundg k1
            case measure => have := HK1.out; omega
            case rel => exact ⟨(wrap64 (x5_1 + 1)), (by first | rfl | (simp; done) | (simp [*]; done)), H', ⟨by have := HK1.out; omega⟩, by repeat (first | exact Drawn0.refl _ | apply Drawn0.step)⟩
          · rw [if_neg c6] at H
            have c6b0 : decide (x5_1 < 12) = false := decide_eq_false c6
            clear c6
            obtain rfl := Option.some.inj H
            go_wp2
            go_ret
            exact ⟨by first | rfl | (simp; done) | (simp only [← hji4] <;> (first | rfl | simp)) | (simp [*]; done), by repeat (first | exact Drawn0.refl _ | apply Drawn0.step)⟩
        · rw [if_neg c5] at H
          have c5b0 : decide ((wrap64 ((ji4) - 1)) ≤ a0) = false := decide_eq_false c5
          clear c5
          obtain rfl := Option.some.inj H
          go_wp2
          go_ret
          exact ⟨by first | rfl | (simp; done) | (simp only [← hji4] <;> (first | rfl | simp)) | (simp [*]; done), by repeat (first | exact Drawn0.refl _ | apply Drawn0.step)⟩
      · rw [if_neg c3] at H
        exact absurd H (by simp)

-- NOT PRINTED: function 27 (spec_Coded)

-- NOT PRINTED: function 36 (spec_writer_one)

-- NOT PRINTED: function 37 (spec_writer_many)

/-! ### spec_repeats: function 49 -/
def spec_repeats.l0 : Nat → List Int → Int → Int → Int → Option (Int)
  | 0, _, _, _, _ => none
  | k + 1, x0, x1, x2, x7 => if x2 ≤ x1 then (if x7 < 258 then (if (wrap64 (x1 + x7)) < (x0.length : Int) then (if 0 ≤ (wrap64 (x1 + x7)) then (if 0 ≤ (wrap64 ((wrap64 (x1 + x7)) - x2)) then (if (wrap64 ((wrap64 (x1 + x7)) - x2)) < (x0.length : Int) then (if (rd x0 (wrap64 (x1 + x7))) = (rd x0 (wrap64 ((wrap64 (x1 + x7)) - x2))) then (spec_repeats.l0 k x0 x1 x2 (wrap64 (x7 + 1))) else (some x7)) else (none)) else (none)) else (none)) else (some x7)) else (some x7)) else (some x7)
def spec_repeats.f (k : Nat) (l0 : List Int) (a1 : Int) (a2 : Int) : Option (Int) := spec_repeats.l0 k l0 a1 a2 0
theorem spec_repeats.mono_l : ∀ k, (∀ y0 y1 y2 y3, LeO (spec_repeats.l0 k y0 y1 y2 y3) (spec_repeats.l0 (k + 1) y0 y1 y2 y3))
  | 0 => fun _ _ _ _ r h => by simp [spec_repeats.l0] at h
  | k + 1 => by
    have ih0 := spec_repeats.mono_l k
    · intro y0 y1 y2 y3
      unfold spec_repeats.l0
      repeat' first
      | (with_reducible exact ih0 _ _ _ _)
      | (with_reducible exact LeO.refl _)
      | (with_reducible exact LeO.none _)
      | (with_reducible refine LeO.ite ?_ ?_)
      | (with_reducible refine LeO.bind ?_ (fun _ => ?_))
      | exact ih0 _ _ _ _
      | exact LeO.none _
      | refine LeO.ite ?_ ?_
      | refine LeO.bind ?_ (fun _ => ?_)
theorem spec_repeats.mono : ∀ a0 a1 a2 k, LeO (spec_repeats.f k a0 a1 a2) (spec_repeats.f (k + 1) a0 a1 a2) := by
  intro a0 a1 a2 k
  have ih0 := spec_repeats.mono_l k
  unfold spec_repeats.f
  repeat' first
      | (with_reducible exact ih0 _ _ _ _)
      | (with_reducible exact LeO.refl _)
      | (with_reducible exact LeO.none _)
      | (with_reducible refine LeO.ite ?_ ?_)
      | (with_reducible refine LeO.bind ?_ (fun _ => ?_))
      | exact ih0 _ _ _ _
      | exact LeO.none _
      | refine LeO.ite ?_ ?_
      | refine LeO.bind ?_ (fun _ => ?_)
set_option maxHeartbeats 8000000 in
set_option maxRecDepth 100000 in
theorem spec_repeats.calls (k : Nat) (A0 : Option Addr) (c0 : Nat) (l0 : List Int) (a1 : Int) (a2 : Int) (r : Int) (w : World) (hr0 : Kd.C (Kd.int .u8) w A0 l0.length l0) (hc0 : l0.length ≤ c0) (h : spec_repeats.f k l0 a1 a2 = some r) :
    Calls Tryd.prog 49 #[.slice A0 l0.length c0, .int .i64 a1, .int .i64 a2] w fun e w' => e = .returned (.int .i64 r) ∧ Drawn0 w w' := by
  have HR0 := Aside0.mk hr0
  have HC0 := Aside0.mk hc0
  clear hr0 hc0
  have H : (spec_repeats.l0 k l0 a1 a2 0) = some r := h
  clear h
  have H' := Aside0.mk H
  clear H
  go_enter Tryd.func49, Tryd.ntmps49
  go_wp2
  repeat (go_quiet (fail); try go_wp2)
  go_loopg [7] k (fun kq v7 w' => ∃ (x7_1 : Int), v7 = .int .i64 x7_1 ∧ Aside0 (spec_repeats.l0 kq l0 a1 a2 x7_1 = some r) ∧ Aside0 (kq ≤ k) ∧ Drawn0 w w')
  case atStart => exact ⟨(0), (by first | rfl | (simp; done) | (simp [*]; done)), H', ⟨Nat.le_refl _⟩, by repeat (first | exact Drawn0.refl _ | apply Drawn0.step)⟩
  case round =>
    clear H'
    try clear p2
    obtain ⟨x7_1, rfl, HA, HK1, ⟨m1, rfl⟩⟩ := hrel
    cases gk with
    | zero => exact absurd HA.out (by simp [spec_repeats.l0])
    | succ k1 =>
      have H := HA.out
      clear HA
      simp only [spec_repeats.l0] at H
      by_cases c4 : a2 ≤ a1
      · rw [if_pos c4] at H
        have c4b0 : decide (a2 ≤ a1) = true := decide_eq_true c4
        clear c4
        by_cases c5 : x7_1 < 258
        · rw [if_pos c5] at H
          have c5b0 : decide (x7_1 < 258) = true := decide_eq_true c5
          clear c5
          by_cases c6 : (wrap64 (a1 + x7_1)) < (l0.length : Int)
          · rw [if_pos c6] at H
            have c6b0 : decide ((wrap64 (a1 + x7_1)) < (l0.length : Int)) = true := decide_eq_true c6
            clear c6
            obtain ⟨ji7, hji7⟩ : ∃ j_ : Int, (wrap64 (a1 + x7_1)) = j_ := ⟨_, rfl⟩
            replace H : (if 0 ≤ (ji7) then (if 0 ≤ (wrap64 ((ji7) - a2)) then (if (wrap64 ((ji7) - a2)) < (l0.length : Int) then (if (rd l0 (ji7)) = (rd l0 (wrap64 ((ji7) - a2))) then (spec_repeats.l0 k1 l0 a1 a2 (wrap64 (x7_1 + 1))) else (some x7_1)) else (none)) else (none)) else (none)) = some r := by first | (rw [hji7] at H; exact H) | (simp only [hji7] at H ⊢; exact H)
            (try rw [hji7] at c6b0)
            have hji7w : (IntKind.i64.wrap (a1 + x7_1)) = ji7 := (i64_w _).trans hji7
            by_cases c8 : 0 ≤ (ji7)
            · rw [if_pos c8] at H
              have c8b0 : decide (0 ≤ (ji7)) = true := decide_eq_true c8
              clear c8
              obtain ⟨ji9, hji9⟩ : ∃ j_ : Int, (wrap64 ((ji7) - a2)) = j_ := ⟨_, rfl⟩
              replace H : (if 0 ≤ (ji9) then (if (ji9) < (l0.length : Int) then (if (rd l0 (ji7)) = (rd l0 (ji9)) then (spec_repeats.l0 k1 l0 a1 a2 (wrap64 (x7_1 + 1))) else (some x7_1)) else (none)) else (none)) = some r := by first | (rw [hji9] at H; exact H) | (simp only [hji9] at H ⊢; exact H)
              have hji9w : (IntKind.i64.wrap ((ji7) - a2)) = ji9 := (i64_w _).trans hji9
              by_cases c10 : 0 ≤ (ji9)
              · rw [if_pos c10] at H
                have c10b0 : decide (0 ≤ (ji9)) = true := decide_eq_true c10
                clear c10
                by_cases c11 : (ji9) < (l0.length : Int)
                · rw [if_pos c11] at H
                  have c11b0 : decide ((ji9) < (l0.length : Int)) = true := decide_eq_true c11
                  clear c11
                  by_cases c12 : (rd l0 (ji7)) = (rd l0 (ji9))
                  · rw [if_pos c12] at H
                    have c12b0 : ((rd l0 (ji7)) == (rd l0 (ji9))) = true := beq_iff_eq.mpr c12
                    have c12b1 : ((rd l0 (ji7)) != (rd l0 (ji9))) = false := bne_eq_false_iff_eq.mpr c12
                    clear c12
                    have H' := Aside0.mk H
                    clear H
                    have p151 : 0 ≤ ((ji7) : Int) := of_decide_eq_true (by first | (with_reducible assumption) | assumption)
                    have q151 : (ji7) < (l0.length : Int) := of_decide_eq_true (by first | (with_reducible assumption) | assumption)
                    obtain ⟨ad151, e151, hx151_0⟩ := Kd.at_int HR0.out (ji7) p151 q151
                    cases e151
                    replace p151 := eq_true p151
                    replace q151 := eq_true q151
                    have p152 : 0 ≤ ((ji9) : Int) := of_decide_eq_true (by first | (with_reducible assumption) | assumption)
                    have q152 : (ji9) < (l0.length : Int) := of_decide_eq_true (by first | (with_reducible assumption) | assumption)
                    obtain ⟨ad152, e152, hx152_0⟩ := Kd.at_int HR0.out (ji9) p152 q152
                    obtain rfl : ad151 = ad152 := (by injection e152)
                    replace p152 := eq_true p152
                    replace q152 := eq_true q152
                    go_wp2
                    repeat (go_quiet (fail); try go_wp2)
                    go_roundg k1
                    case measure => have := HK1.out; omega
                    case rel => exact ⟨(wrap64 (x7_1 + 1)), (by first | rfl | (simp; done) | (simp [*]; done)), H', ⟨by have := HK1.out; omega⟩, by repeat (first | exact Drawn0.refl _ | apply Drawn0.step)⟩
                  · rw [if_neg c12] at H
                    have c12b0 : ((rd l0 (ji7)) == (rd l0 (ji9))) = false := beq_eq_false_iff_ne.mpr c12
                    have c12b1 : ((rd l0 (ji7)) != (rd l0 (ji9))) = true := bne_iff_ne.mpr c12
                    obtain rfl := Option.some.inj H
                    have p151 : 0 ≤ ((ji7) : Int) := of_decide_eq_true (by first | (with_reducible assumption) | assumption)
                    have q151 : (ji7) < (l0.length : Int) := of_decide_eq_true (by first | (with_reducible assumption) | assumption)
                    obtain ⟨ad151, e151, hx151_0⟩ := Kd.at_int HR0.out (ji7) p151 q151
                    cases e151
                    replace p151 := eq_true p151
                    replace q151 := eq_true q151
                    have p152 : 0 ≤ ((ji9) : Int) := of_decide_eq_true (by first | (with_reducible assumption) | assumption)
                    have q152 : (ji9) < (l0.length : Int) := of_decide_eq_true (by first | (with_reducible assumption) | assumption)
                    obtain ⟨ad152, e152, hx152_0⟩ := Kd.at_int HR0.out (ji9) p152 q152
                    obtain rfl : ad151 = ad152 := (by injection e152)
                    replace p152 := eq_true p152
                    replace q152 := eq_true q152
                    go_wp2
                    repeat (go_quiet (fail); try go_wp2)
                    go_ret
                    exact ⟨by first | rfl | (simp; done) | (simp only [← hji7, ← hji9] <;> (first | rfl | simp)) | (simp [*]; done), by repeat (first | exact Drawn0.refl _ | apply Drawn0.step)⟩
                · rw [if_neg c11] at H
                  exact absurd H (by simp)
              · rw [if_neg c10] at H
                exact absurd H (by simp)
            · rw [if_neg c8] at H
              exact absurd H (by simp)
          · rw [if_neg c6] at H
            have c6b0 : decide ((wrap64 (a1 + x7_1)) < (l0.length : Int)) = false := decide_eq_false c6
            clear c6
            obtain rfl := Option.some.inj H
            go_wp2
            repeat (go_quiet (fail); try go_wp2)
            go_ret
            exact ⟨by first | rfl | (simp; done) | (simp [*]; done), by repeat (first | exact Drawn0.refl _ | apply Drawn0.step)⟩
        · rw [if_neg c5] at H
          have c5b0 : decide (x7_1 < 258) = false := decide_eq_false c5
          clear c5
          obtain rfl := Option.some.inj H
          go_wp2
          repeat (go_quiet (fail); try go_wp2)
          go_ret
          exact ⟨by first | rfl | (simp; done) | (simp [*]; done), by repeat (first | exact Drawn0.refl _ | apply Drawn0.step)⟩
      · rw [if_neg c4] at H
        have c4b0 : decide (a2 ≤ a1) = false := decide_eq_false c4
        clear c4
        obtain rfl := Option.some.inj H
        go_wp2
        repeat (go_quiet (fail); try go_wp2)
        go_ret
        exact ⟨by first | rfl | (simp; done) | (simp [*]; done), by repeat (first | exact Drawn0.refl _ | apply Drawn0.step)⟩

-- NOT PRINTED: function 56 (spec_writer_word)

-- NOT PRINTED: function 50 (spec_writer_symbol)

/-! ### spec_lengthOf: function 57 -/
def spec_lengthOf.f (a0 : Int) : Option (Int × Int) := if (wrap64 (a0 - 257)) = 28 then (some (258, 0)) else (if (wrap64 (a0 - 257)) < 8 then (some (wrap64 (3 + (wrap64 (a0 - 257))), 0)) else (if 0 ≤ (wrap64 ((wrap64 (Int.tdiv (wrap64 (a0 - 257)) 4)) - 1)) then (some (wrap64 (3 + (shl .i64 (wrap64 (4 + (Int.tmod (wrap64 (a0 - 257)) 4))) (wrap64 ((wrap64 (Int.tdiv (wrap64 (a0 - 257)) 4)) - 1)))), wrap64 ((wrap64 (Int.tdiv (wrap64 (a0 - 257)) 4)) - 1))) else (none)))
set_option maxHeartbeats 8000000 in
set_option maxRecDepth 100000 in
theorem spec_lengthOf.calls (a0 : Int) (r1 : Int) (r2 : Int) (w : World) (h : spec_lengthOf.f a0 = some (r1, r2)) :
    Calls Tryd.prog 57 #[.int .i64 a0] w fun e w' => e = .returned (.tuple #[.int .i64 r1, .int .i64 r2]) ∧ Drawn0 w w' := by
  have H : (if (wrap64 (a0 - 257)) = 28 then (some (258, 0)) else (if (wrap64 (a0 - 257)) < 8 then (some (wrap64 (3 + (wrap64 (a0 - 257))), 0)) else (if 0 ≤ (wrap64 ((wrap64 (Int.tdiv (wrap64 (a0 - 257)) 4)) - 1)) then (some (wrap64 (3 + (shl .i64 (wrap64 (4 + (Int.tmod (wrap64 (a0 - 257)) 4))) (wrap64 ((wrap64 (Int.tdiv (wrap64 (a0 - 257)) 4)) - 1)))), wrap64 ((wrap64 (Int.tdiv (wrap64 (a0 - 257)) 4)) - 1))) else (none)))) = some (r1, r2) := h
  clear h
  by_cases c2 : (wrap64 (a0 - 257)) = 28
  · rw [if_pos c2] at H
    have c2b0 : ((wrap64 (a0 - 257)) == 28) = true := beq_iff_eq.mpr c2
    have c2b1 : ((wrap64 (a0 - 257)) != 28) = false := bne_eq_false_iff_eq.mpr c2
    clear c2
    simp only [Option.some.injEq, Prod.mk.injEq] at H
    obtain ⟨rfl, rfl⟩ := H
    go_enter Tryd.func57, Tryd.ntmps57
    go_wp2
    go_ret2
    exact ⟨by first | rfl | (simp; done) | (simp [*]; done), by repeat (first | exact Drawn0.refl _ | apply Drawn0.step)⟩
  · rw [if_neg c2] at H
    have c2b0 : ((wrap64 (a0 - 257)) == 28) = false := beq_eq_false_iff_ne.mpr c2
    have c2b1 : ((wrap64 (a0 - 257)) != 28) = true := bne_iff_ne.mpr c2
    by_cases c3 : (wrap64 (a0 - 257)) < 8
    · rw [if_pos c3] at H
      have c3b0 : decide ((wrap64 (a0 - 257)) < 8) = true := decide_eq_true c3
      clear c3
      simp only [Option.some.injEq, Prod.mk.injEq] at H
      obtain ⟨rfl, rfl⟩ := H
      go_enter Tryd.func57, Tryd.ntmps57
      go_wp2
      go_ret2
      exact ⟨by first | rfl | (simp; done) | (simp [*]; done), by repeat (first | exact Drawn0.refl _ | apply Drawn0.step)⟩
    · rw [if_neg c3] at H
      have c3b0 : decide ((wrap64 (a0 - 257)) < 8) = false := decide_eq_false c3
      clear c3
      obtain ⟨ji4, hji4⟩ : ∃ j_ : Int, (wrap64 ((wrap64 (Int.tdiv (wrap64 (a0 - 257)) 4)) - 1)) = j_ := ⟨_, rfl⟩
      replace H : (if 0 ≤ (ji4) then (some (wrap64 (3 + (shl .i64 (wrap64 (4 + (Int.tmod (wrap64 (a0 - 257)) 4))) (ji4))), ji4)) else (none)) = some (r1, r2) := by first | (rw [hji4] at H; exact H) | (simp only [hji4] at H ⊢; exact H)
      have hji4w : (IntKind.i64.wrap ((wrap64 (Int.tdiv (wrap64 (a0 - 257)) 4)) - 1)) = ji4 := (i64_w _).trans hji4
      by_cases c5 : 0 ≤ (ji4)
      · rw [if_pos c5] at H
        have c5b0 := eq_true c5
        have c5b1 : decide (0 ≤ (ji4)) = true := decide_eq_true c5
        clear c5
        obtain ⟨ji6, hji6⟩ : ∃ j_ : Int, (shl .i64 (wrap64 (4 + (Int.tmod (wrap64 (a0 - 257)) 4))) (ji4)) = j_ := ⟨_, rfl⟩
        replace H : (some (wrap64 (3 + (ji6)), ji4)) = some (r1, r2) := by first | (rw [hji6] at H; exact H) | (simp only [hji6] at H ⊢; exact H)
        have hji6_ : (IntKind.i64.wrap ((wrap64 (4 + (Int.tmod (wrap64 (a0 - 257)) 4))) * 2 ^ min (ji4).toNat 64)) = ji6 := hji6
        have hji6z : (ji4) ≤ 64 → (IntKind.i64.wrap ((wrap64 (4 + (Int.tmod (wrap64 (a0 - 257)) 4))) * 2 ^ (ji4).toNat)) = ji6 := shl_small hji6
        have hji6y : (wrap64 ((wrap64 (4 + (Int.tmod (wrap64 (a0 - 257)) 4))) * 2 ^ min (ji4).toNat 64)) = ji6 := (i64_w _).symm.trans hji6_
        have hji6x : (ji4) ≤ 64 → (wrap64 ((wrap64 (4 + (Int.tmod (wrap64 (a0 - 257)) 4))) * 2 ^ (ji4).toNat)) = ji6 := fun h_ => (i64_w _).symm.trans (hji6z h_)
        simp only [Option.some.injEq, Prod.mk.injEq] at H
        obtain ⟨rfl, rfl⟩ := H
        go_enter Tryd.func57, Tryd.ntmps57
        go_wp2
        go_ret2
        exact ⟨by first | rfl | (simp; done) | (simp only [← hji4, ← hji6] <;> (first | rfl | simp)) | (simp [*]; done), by repeat (first | exact Drawn0.refl _ | apply Drawn0.step)⟩
      · rw [if_neg c5] at H
        exact absurd H (by simp)

/-! ### spec_distanceOf: function 58 -/
def spec_distanceOf.f (a0 : Int) : Option (Int × Int) := if a0 < 4 then (some (wrap64 (1 + a0), 0)) else (if 0 ≤ (wrap64 ((wrap64 (Int.tdiv a0 2)) - 1)) then (some (wrap64 (1 + (shl .i64 (wrap64 (2 + (Int.tmod a0 2))) (wrap64 ((wrap64 (Int.tdiv a0 2)) - 1)))), wrap64 ((wrap64 (Int.tdiv a0 2)) - 1))) else (none))
set_option maxHeartbeats 8000000 in
set_option maxRecDepth 100000 in
theorem spec_distanceOf.calls (a0 : Int) (r1 : Int) (r2 : Int) (w : World) (h : spec_distanceOf.f a0 = some (r1, r2)) :
    Calls Tryd.prog 58 #[.int .i64 a0] w fun e w' => e = .returned (.tuple #[.int .i64 r1, .int .i64 r2]) ∧ Drawn0 w w' := by
  have H : (if a0 < 4 then (some (wrap64 (1 + a0), 0)) else (if 0 ≤ (wrap64 ((wrap64 (Int.tdiv a0 2)) - 1)) then (some (wrap64 (1 + (shl .i64 (wrap64 (2 + (Int.tmod a0 2))) (wrap64 ((wrap64 (Int.tdiv a0 2)) - 1)))), wrap64 ((wrap64 (Int.tdiv a0 2)) - 1))) else (none))) = some (r1, r2) := h
  clear h
  by_cases c2 : a0 < 4
  · rw [if_pos c2] at H
    have c2b0 : decide (a0 < 4) = true := decide_eq_true c2
    clear c2
    simp only [Option.some.injEq, Prod.mk.injEq] at H
    obtain ⟨rfl, rfl⟩ := H
    go_enter Tryd.func58, Tryd.ntmps58
    go_wp2
    go_ret2
    exact ⟨by first | rfl | (simp; done) | (simp [*]; done), by repeat (first | exact Drawn0.refl _ | apply Drawn0.step)⟩
  · rw [if_neg c2] at H
    have c2b0 : decide (a0 < 4) = false := decide_eq_false c2
    clear c2
    obtain ⟨ji3, hji3⟩ : ∃ j_ : Int, (wrap64 ((wrap64 (Int.tdiv a0 2)) - 1)) = j_ := ⟨_, rfl⟩
    replace H : (if 0 ≤ (ji3) then (some (wrap64 (1 + (shl .i64 (wrap64 (2 + (Int.tmod a0 2))) (ji3))), ji3)) else (none)) = some (r1, r2) := by first | (rw [hji3] at H; exact H) | (simp only [hji3] at H ⊢; exact H)
    have hji3w : (IntKind.i64.wrap ((wrap64 (Int.tdiv a0 2)) - 1)) = ji3 := (i64_w _).trans hji3
    by_cases c4 : 0 ≤ (ji3)
    · rw [if_pos c4] at H
      have c4b0 := eq_true c4
      have c4b1 : decide (0 ≤ (ji3)) = true := decide_eq_true c4
      clear c4
      obtain ⟨ji5, hji5⟩ : ∃ j_ : Int, (shl .i64 (wrap64 (2 + (Int.tmod a0 2))) (ji3)) = j_ := ⟨_, rfl⟩
      replace H : (some (wrap64 (1 + (ji5)), ji3)) = some (r1, r2) := by first | (rw [hji5] at H; exact H) | (simp only [hji5] at H ⊢; exact H)
      have hji5_ : (IntKind.i64.wrap ((wrap64 (2 + (Int.tmod a0 2))) * 2 ^ min (ji3).toNat 64)) = ji5 := hji5
      have hji5z : (ji3) ≤ 64 → (IntKind.i64.wrap ((wrap64 (2 + (Int.tmod a0 2))) * 2 ^ (ji3).toNat)) = ji5 := shl_small hji5
      have hji5y : (wrap64 ((wrap64 (2 + (Int.tmod a0 2))) * 2 ^ min (ji3).toNat 64)) = ji5 := (i64_w _).symm.trans hji5_
      have hji5x : (ji3) ≤ 64 → (wrap64 ((wrap64 (2 + (Int.tmod a0 2))) * 2 ^ (ji3).toNat)) = ji5 := fun h_ => (i64_w _).symm.trans (hji5z h_)
      simp only [Option.some.injEq, Prod.mk.injEq] at H
      obtain ⟨rfl, rfl⟩ := H
      go_enter Tryd.func58, Tryd.ntmps58
      go_wp2
      go_ret2
      exact ⟨by first | rfl | (simp; done) | (simp only [← hji3, ← hji5] <;> (first | rfl | simp)) | (simp [*]; done), by repeat (first | exact Drawn0.refl _ | apply Drawn0.step)⟩
    · rw [if_neg c4] at H
      exact absurd H (by simp)

-- NOT PRINTED: function 51 (spec_writer_again)

-- NOT PRINTED: function 38 (spec_writer_block)

/-! ### spec_Four: function 39 -/
def spec_Four.f (a0 : Int) : Option (List Int) := some (([(a0 / 16777216) % 256, (a0 / 65536) % 256, (a0 / 256) % 256, (a0) % 256] : List Int))
set_option maxHeartbeats 8000000 in
set_option maxRecDepth 100000 in
theorem spec_Four.calls (a0 : Int) (r : List Int) (w : World) (h : spec_Four.f a0 = some r) :
    Calls Tryd.prog 39 #[.int .u32 a0] w fun e w' => ∃ v0_ : Value, e = .returned (v0_) ∧ Kd.R (Kd.int .u8) 5 w' w.heap.size (fun _ => True) v0_ r ∧ Below w.heap.size w w' := by
  have HB := Aside0.mk (Below.refl w.heap.size w)
  have H : (some (([(a0 / 16777216) % 256, (a0 / 65536) % 256, (a0 / 256) % 256, (a0) % 256] : List Int))) = some r := h
  clear h
  obtain ⟨y157, hy157⟩ : ∃ y_ : List Int, y_ = (([(a0 / 16777216) % 256, (a0 / 65536) % 256, (a0 / 256) % 256, (a0) % 256] : List Int)) := ⟨_, rfl⟩
  replace H : (some y157) = some r := by first | (rw [hy157]; with_reducible exact H) | (have H2_ := (Option.bind_some _ _).symm.trans H; rw [hy157]; with_reducible exact H2_) | (have H2_ := (Option.bind_some _ _).symm.trans H; with_reducible exact H2_) | with_reducible exact H | (rw [hy157]; exact H) | exact H
  have Ny157 := Aside0.mk hy157
  clear hy157
  obtain rfl := Option.some.inj H
  go_enter Tryd.func39, Tryd.ntmps39
  go_wp2_with (first | ((with_reducible refine gate_dst (N := 14) rfl ?_); refine Kd.R_lit (Kd.int .u8) _ 5 ?hg (N := 14) ?hd (xs := ([(a0 / 16777216) % 256, (a0 / 65536) % 256, (a0 / 256) % 256, (a0) % 256] : List Int)) (inner := [.int .u8 ((a0 / 16777216) % 256), .int .u8 ((a0 / 65536) % 256), .int .u8 ((a0 / 256) % 256), .int .u8 ((a0) % 256)]) (ok := fun _ => True) (okp := fun _ => True) ?hr ?hp (fun _ hk => hk) trivial (Below.refl _ _) (Nat.le_refl _) (by simp) ?_; (case hd => rfl); (case hg => rfl); (case hr => first | (go_simp; done) | (go_simp; rfl)); (case hp => exact (Reps.one (show Kd.M (Kd.int .u8) _ _ _ ((a0 / 16777216) % 256) [.int .u8 ((a0 / 16777216) % 256)] from rfl) (Reps.one (show Kd.M (Kd.int .u8) _ _ _ ((a0 / 65536) % 256) [.int .u8 ((a0 / 65536) % 256)] from rfl) (Reps.one (show Kd.M (Kd.int .u8) _ _ _ ((a0 / 256) % 256) [.int .u8 ((a0 / 256) % 256)] from rfl) (Reps.one (show Kd.M (Kd.int .u8) _ _ _ ((a0) % 256) [.int .u8 ((a0) % 256)] from rfl) (Reps.none _ _)))))); intro v158 w2 ho3 hb hg_ hnew_; clear hg_ hnew_; (first | rw [← Ny157.out] at ho3 | (simp only [Int.reduceToNat] at ho3; rw [← Ny157.out] at ho3)); have n0_ := Aside0.mk (Kd.R_lower ho3 (below_size (by repeat (first | (with_reducible first | exact HB.out | apply below_alloc | apply pw_below_drewN | apply below_drew1) | exact HB.out)))); have n1_ := Aside0.mk (below_step (by repeat (first | (with_reducible first | exact HB.out | apply below_alloc | apply pw_below_drewN | apply below_drew1) | exact HB.out)) hb); clear HB; have HO159 := n0_; have HB := n1_; clear n0_ n1_; clear hb ho3))
  go_ret
  exact ⟨_, by first | rfl | (simp [errW_none, errW_some] <;> rfl) | (simp [*, errW_none, errW_some] <;> rfl), by (with_reducible repeat (first | apply Kd.R_alloc | apply Kd.R_drewN | apply Kd.R_drew)); exact HO159.out, by repeat (first | (with_reducible first | exact HB.out | apply below_alloc | apply pw_below_drewN | apply below_drew1) | exact HB.out)⟩

/-! ### spec_Adler: function 40 -/
def spec_Adler.l0 : Nat → Int → Int → List Int → Int → Int → Option (Int)
  | 0, _, _, _, _, _ => none
  | k + 1, x3, x4, x7, x8, x9 => if x9 < x8 then (if 0 ≤ x9 then (if x9 < (x7.length : Int) then (spec_Adler.l0 k (((x3 + ((rd x7 x9) % 4294967296)) % 4294967296) % 65521) (((x4 + (((x3 + ((rd x7 x9) % 4294967296)) % 4294967296) % 65521)) % 4294967296) % 65521) x7 x8 (wrap64 (x9 + 1))) else (none)) else (none)) else (some (Go.bits .or .u32 ((x4 * 65536) % 4294967296) x3))
def spec_Adler.f (k : Nat) (l0 : List Int) : Option (Int) := spec_Adler.l0 k 1 0 l0 (l0.length : Int) 0
theorem spec_Adler.mono_l : ∀ k, (∀ y0 y1 y2 y3 y4, LeO (spec_Adler.l0 k y0 y1 y2 y3 y4) (spec_Adler.l0 (k + 1) y0 y1 y2 y3 y4))
  | 0 => fun _ _ _ _ _ r h => by simp [spec_Adler.l0] at h
  | k + 1 => by
    have ih0 := spec_Adler.mono_l k
    · intro y0 y1 y2 y3 y4
      unfold spec_Adler.l0
      repeat' first
      | (with_reducible exact ih0 _ _ _ _ _)
      | (with_reducible exact LeO.refl _)
      | (with_reducible exact LeO.none _)
      | (with_reducible refine LeO.ite ?_ ?_)
      | (with_reducible refine LeO.bind ?_ (fun _ => ?_))
      | exact ih0 _ _ _ _ _
      | exact LeO.none _
      | refine LeO.ite ?_ ?_
      | refine LeO.bind ?_ (fun _ => ?_)
theorem spec_Adler.mono : ∀ a0 k, LeO (spec_Adler.f k a0) (spec_Adler.f (k + 1) a0) := by
  intro a0 k
  have ih0 := spec_Adler.mono_l k
  unfold spec_Adler.f
  repeat' first
      | (with_reducible exact ih0 _ _ _ _ _)
      | (with_reducible exact LeO.refl _)
      | (with_reducible exact LeO.none _)
      | (with_reducible refine LeO.ite ?_ ?_)
      | (with_reducible refine LeO.bind ?_ (fun _ => ?_))
      | exact ih0 _ _ _ _ _
      | exact LeO.none _
      | refine LeO.ite ?_ ?_
      | refine LeO.bind ?_ (fun _ => ?_)
set_option maxHeartbeats 8000000 in
set_option maxRecDepth 100000 in
theorem spec_Adler.calls (k : Nat) (A0 : Option Addr) (c0 : Nat) (l0 : List Int) (r : Int) (w : World) (hr0 : Kd.C (Kd.int .u8) w A0 l0.length l0) (hc0 : l0.length ≤ c0) (h : spec_Adler.f k l0 = some r) :
    Calls Tryd.prog 40 #[.slice A0 l0.length c0] w fun e w' => e = .returned (.int .u32 r) ∧ Drawn0 w w' := by
  have HR0 := Aside0.mk hr0
  have HC0 := Aside0.mk hc0
  clear hr0 hc0
  have H : (spec_Adler.l0 k 1 0 l0 (l0.length : Int) 0) = some r := h
  clear h
  have H' := Aside0.mk H
  clear H
  go_enter Tryd.func40, Tryd.ntmps40
  go_wp2
  go_loopg [3, 4, 9] k (fun kq v3 v4 v9 w' => ∃ (x3_1 : Int) (x4_1 : Int) (x9_1 : Int), v3 = .int .u32 x3_1 ∧ v4 = .int .u32 x4_1 ∧ v9 = .int .i64 x9_1 ∧ Aside0 (spec_Adler.l0 kq x3_1 x4_1 l0 (l0.length : Int) x9_1 = some r) ∧ Aside0 (kq ≤ k) ∧ Drawn0 w w')
  case atStart => exact ⟨(1), (0), (0), (by first | rfl | (simp; done) | (simp [*]; done)), (by first | rfl | (simp; done) | (simp [*]; done)), (by first | rfl | (simp; done) | (simp [*]; done)), H', ⟨Nat.le_refl _⟩, by repeat (first | exact Drawn0.refl _ | apply Drawn0.step)⟩
  case round =>
    clear H'
    obtain ⟨x3_1, x4_1, x9_1, rfl, rfl, rfl, HA, HK1, ⟨m1, rfl⟩⟩ := hrel
    cases gk with
    | zero => exact absurd HA.out (by simp [spec_Adler.l0])
    | succ k1 =>
      have H := HA.out
      clear HA
      simp only [spec_Adler.l0] at H
      by_cases c2 : x9_1 < (l0.length : Int)
      · rw [if_pos c2] at H
        have c2b0 : decide (x9_1 < (l0.length : Int)) = true := decide_eq_true c2
        clear c2
        by_cases c3 : 0 ≤ x9_1
        · rw [if_pos c3] at H
          have c3b0 : decide (0 ≤ x9_1) = true := decide_eq_true c3
          clear c3
          by_cases c4 : x9_1 < (l0.length : Int)
          · rw [if_pos c4] at H
            have c4b0 : decide (x9_1 < (l0.length : Int)) = true := decide_eq_true c4
            clear c4
            have H' := Aside0.mk H
            clear H
            have p160 : 0 ≤ (x9_1 : Int) := of_decide_eq_true (by first | (with_reducible assumption) | assumption)
            have q160 : x9_1 < (l0.length : Int) := of_decide_eq_true (by first | (with_reducible assumption) | assumption)
            obtain ⟨ad160, e160, hx160_0⟩ := Kd.at_int HR0.out x9_1 p160 q160
            cases e160
            replace p160 := eq_true p160
            replace q160 := eq_true q160
            go_wp2
            go_roundg k1
            case measure => have := HK1.out; omega
            case rel => exact ⟨(((x3_1 + ((rd l0 x9_1) % 4294967296)) % 4294967296) % 65521), (((x4_1 + (((x3_1 + ((rd l0 x9_1) % 4294967296)) % 4294967296) % 65521)) % 4294967296) % 65521), (wrap64 (x9_1 + 1)), (by first | rfl | (simp; done) | (simp [*]; done)), (by first | rfl | (simp; done) | (simp [*]; done)), (by first | rfl | (simp; done) | (simp [*]; done)), H', ⟨by have := HK1.out; omega⟩, by repeat (first | exact Drawn0.refl _ | apply Drawn0.step)⟩
          · rw [if_neg c4] at H
            exact absurd H (by simp)
        · rw [if_neg c3] at H
          exact absurd H (by simp)
      · rw [if_neg c2] at H
        have c2b0 : decide (x9_1 < (l0.length : Int)) = false := decide_eq_false c2
        clear c2
        obtain rfl := Option.some.inj H
        go_wp2
        go_ret
        exact ⟨by first | rfl | (simp; done) | (simp [*]; done), by repeat (first | exact Drawn0.refl _ | apply Drawn0.step)⟩

-- NOT PRINTED: function 28 (spec_Packed)

end Go.Proofs.YtnodmobblamlgaaDoor.PFnConfig
