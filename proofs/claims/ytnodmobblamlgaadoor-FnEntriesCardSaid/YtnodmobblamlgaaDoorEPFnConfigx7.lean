/- Words that a printer of the kit wrote for this seat, cut down to what this proof uses. -/
import Derived.Test.YtnodmobblamlgaaDoorEPx01
namespace Go.Proofs.YtnodmobblamlgaaDoor.PFnConfig
open Go.RowKit Go.Proofs.YtnodmobblamlgaaDoorW.PrintWords Go.Proofs.YtnodmobblamlgaaDoorW.PrintLast Go.Proofs.YtnodmobblamlgaaDoorW.PrintMore
attribute [local go_sem] max2_int min2_int max_two min_two max_three min_three max_four min_four   -- for this text's walks alone
set_option linter.unusedVariables false
set_option linter.unusedSimpArgs false

attribute [local go_sem high] eqA57
/-! ### laws_shades: function 8 -/
def laws_shades.l0 : Nat → List Int → List (S57) → Int → Option ((List (S57)))
  | 0, _, _, _ => none
  | k + 1, x0, x3, x9 => if x9 < 256 then (if (x0.length : Int) > 0 then (if (x0.length : Int) = 0 then (none) else (if 0 ≤ (Int.tmod x9 (x0.length : Int)) then (if (Int.tmod x9 (x0.length : Int)) < (x0.length : Int) then (if 0 ≤ (Int.tmod (wrap64 ((wrap64 (x9 * 3)) + 1)) (x0.length : Int)) then (if (Int.tmod (wrap64 ((wrap64 (x9 * 3)) + 1)) (x0.length : Int)) < (x0.length : Int) then (if 0 ≤ (Int.tmod (wrap64 ((wrap64 (x9 * 5)) + 2)) (x0.length : Int)) then (if (Int.tmod (wrap64 ((wrap64 (x9 * 5)) + 2)) (x0.length : Int)) < (x0.length : Int) then (if x3.length < 4398046511104 then (laws_shades.l0 k x0 (x3 ++ [(⟨wrap64 (257 * (wrap64 (rd x0 (Int.tmod x9 (x0.length : Int))))), wrap64 (257 * (wrap64 (rd x0 (Int.tmod (wrap64 ((wrap64 (x9 * 3)) + 1)) (x0.length : Int))))), wrap64 (257 * (wrap64 (rd x0 (Int.tmod (wrap64 ((wrap64 (x9 * 5)) + 2)) (x0.length : Int))))), 65535⟩ : S57)]) (wrap64 (x9 + 1))) else (none)) else (none)) else (none)) else (none)) else (none)) else (none)) else (none))) else (if x3.length < 4398046511104 then (laws_shades.l0 k x0 (x3 ++ [(⟨wrap64 (257 * x9), wrap64 (257 * (wrap64 (255 - x9))), wrap64 (257 * (Int.tmod (wrap64 (x9 * 7)) 256)), 65535⟩ : S57)]) (wrap64 (x9 + 1))) else (none))) else (some x3)
def laws_shades.f (k : Nat) (l0 : List Int) : Option ((List (S57))) := laws_shades.l0 k l0 (([] : List (S57))) 0
theorem laws_shades.mono_l : ∀ k, (∀ y0 y1 y2, LeO (laws_shades.l0 k y0 y1 y2) (laws_shades.l0 (k + 1) y0 y1 y2))
  | 0 => fun _ _ _ r h => by simp [laws_shades.l0] at h
  | k + 1 => by
    have ih0 := laws_shades.mono_l k
    · intro y0 y1 y2
      unfold laws_shades.l0
      repeat' first
      | (with_reducible exact ih0 _ _ _)
      | (with_reducible exact LeO.refl _)
      | (with_reducible exact LeO.none _)
      | (with_reducible refine LeO.ite ?_ ?_)
      | (with_reducible refine LeO.bind ?_ (fun _ => ?_))
      | exact ih0 _ _ _
      | exact LeO.none _
      | refine LeO.ite ?_ ?_
      | refine LeO.bind ?_ (fun _ => ?_)
theorem laws_shades.mono : ∀ a0 k, LeO (laws_shades.f k a0) (laws_shades.f (k + 1) a0) := by
  intro a0 k
  have ih0 := laws_shades.mono_l k
  unfold laws_shades.f
  repeat' first
      | (with_reducible exact ih0 _ _ _)
      | (with_reducible exact LeO.refl _)
      | (with_reducible exact LeO.none _)
      | (with_reducible refine LeO.ite ?_ ?_)
      | (with_reducible refine LeO.bind ?_ (fun _ => ?_))
      | exact ih0 _ _ _
      | exact LeO.none _
      | refine LeO.ite ?_ ?_
      | refine LeO.bind ?_ (fun _ => ?_)
set_option maxHeartbeats 8000000 in
set_option maxRecDepth 100000 in
theorem laws_shades.calls (k : Nat) (A0 : Option Addr) (c0 : Nat) (l0 : List Int) (r : List (S57)) (w : World) (hr0 : Kd.C (Kd.int .u8) w A0 l0.length l0) (hc0 : l0.length ≤ c0) (h : laws_shades.f k l0 = some r) :
    Calls Tryd.prog 8 #[.slice A0 l0.length c0] w fun e w' => ∃ v0_ : Value, e = .returned (v0_) ∧ Kd.R k57 57 w' w.heap.size (fun _ => True) v0_ r ∧ Below w.heap.size w w' := by
  have hu57 := Tryd.underlying57
  have HR0 := Aside0.mk hr0
  have HC0 := Aside0.mk hc0
  clear hr0 hc0
  have HB := Aside0.mk (Below.refl w.heap.size w)
  have H : (laws_shades.l0 k l0 (([] : List (S57))) 0) = some r := h
  clear h
  obtain ⟨y263, hy263⟩ : ∃ y_ : List (S57), y_ = (([] : List (S57))) := ⟨_, rfl⟩
  replace H : (laws_shades.l0 k l0 y263 0) = some r := by first | (rw [hy263]; with_reducible exact H) | (have H2_ := (Option.bind_some _ _).symm.trans H; rw [hy263]; with_reducible exact H2_) | (have H2_ := (Option.bind_some _ _).symm.trans H; with_reducible exact H2_) | with_reducible exact H | (rw [hy263]; exact H) | exact H
  have Ny263 := Aside0.mk hy263
  clear hy263
  have H' := Aside0.mk H
  clear H
  go_enter Tryd.func8, Tryd.ntmps8
  go_wp2_with (first | ((with_reducible refine gate_dst (N := 8) rfl ?_); refine Kd.R_lit k57 _ 57 ?hg (N := 8) ?hd (xs := ([] : List (S57))) (inner := []) (ok := fun _ => True) (okp := fun _ => True) ?hr ?hp (fun _ hk => hk) trivial (Below.refl _ _) (Nat.le_refl _) (by simp) ?_; (case hd => rfl); (case hg => rfl); (case hr => first | (go_simp; done) | (go_simp; rfl)); (case hp => exact (Reps.none _ _)); intro v264 w2 ho3 hb hg_ hnew_; clear hg_ hnew_; (first | rw [← Ny263.out] at ho3 | (simp only [Int.reduceToNat] at ho3; rw [← Ny263.out] at ho3)); have n0_ := Aside0.mk (Kd.R_lower ho3 (below_size (by repeat (first | (with_reducible first | exact HB.out | apply below_alloc | apply pw_below_drewN | apply below_drew1) | exact HB.out)))); have n1_ := Aside0.mk (below_step (by repeat (first | (with_reducible first | exact HB.out | apply below_alloc | apply pw_below_drewN | apply below_drew1) | exact HB.out)) hb); clear HB; have HO265 := n0_; have HB := n1_; clear n0_ n1_; clear hb ho3))
  repeat (go_quiet (first | ((with_reducible refine gate_dst (N := 8) rfl ?_); refine Kd.R_lit k57 _ 57 ?hg (N := 8) ?hd (xs := ([] : List (S57))) (inner := []) (ok := fun _ => True) (okp := fun _ => True) ?hr ?hp (fun _ hk => hk) trivial (Below.refl _ _) (Nat.le_refl _) (by simp) ?_; (case hd => rfl); (case hg => rfl); (case hr => first | (go_simp; done) | (go_simp; rfl)); (case hp => exact (Reps.none _ _)); intro v264 w2 ho3 hb hg_ hnew_; clear hg_ hnew_; (first | rw [← Ny263.out] at ho3 | (simp only [Int.reduceToNat] at ho3; rw [← Ny263.out] at ho3)); have n0_ := Aside0.mk (Kd.R_lower ho3 (below_size (by repeat (first | (with_reducible first | exact HB.out | apply below_alloc | apply pw_below_drewN | apply below_drew1) | exact HB.out)))); have n1_ := Aside0.mk (below_step (by repeat (first | (with_reducible first | exact HB.out | apply below_alloc | apply pw_below_drewN | apply below_drew1) | exact HB.out)) hb); clear HB; have HO265 := n0_; have HB := n1_; clear n0_ n1_; clear hb ho3)); try go_wp2_with (first | ((with_reducible refine gate_dst (N := 8) rfl ?_); refine Kd.R_lit k57 _ 57 ?hg (N := 8) ?hd (xs := ([] : List (S57))) (inner := []) (ok := fun _ => True) (okp := fun _ => True) ?hr ?hp (fun _ hk => hk) trivial (Below.refl _ _) (Nat.le_refl _) (by simp) ?_; (case hd => rfl); (case hg => rfl); (case hr => first | (go_simp; done) | (go_simp; rfl)); (case hp => exact (Reps.none _ _)); intro v264 w2 ho3 hb hg_ hnew_; clear hg_ hnew_; (first | rw [← Ny263.out] at ho3 | (simp only [Int.reduceToNat] at ho3; rw [← Ny263.out] at ho3)); have n0_ := Aside0.mk (Kd.R_lower ho3 (below_size (by repeat (first | (with_reducible first | exact HB.out | apply below_alloc | apply pw_below_drewN | apply below_drew1) | exact HB.out)))); have n1_ := Aside0.mk (below_step (by repeat (first | (with_reducible first | exact HB.out | apply below_alloc | apply pw_below_drewN | apply below_drew1) | exact HB.out)) hb); clear HB; have HO265 := n0_; have HB := n1_; clear n0_ n1_; clear hb ho3)))
  go_loopg [3, 9] k (fun kq v3 v9 w' => ∃ (x3_1 : List (S57)) (x9_1 : Int), v9 = .int .i64 x9_1 ∧ Aside0 (laws_shades.l0 kq l0 x3_1 x9_1 = some r) ∧ Aside0 (kq ≤ k) ∧ Aside0 (Kd.R k57 57 w' w.heap.size (fun _ => True) v3 x3_1) ∧ Aside0 (Below w.heap.size w w'))
  case atStart => exact ⟨(y263), (0), (by first | rfl | (simp; done) | (simp [*]; done)), H', ⟨Nat.le_refl _⟩, ⟨by (with_reducible repeat (first | apply Kd.R_alloc | apply Kd.R_drewN | apply Kd.R_drew)); exact HO265.out⟩, ⟨by repeat (first | (with_reducible first | exact HB.out | apply below_alloc | apply pw_below_drewN | apply below_drew1) | exact HB.out)⟩⟩
  case round =>
    clear H'
    try clear p2
    obtain ⟨x3_1, x9_1, rfl, HA, HK1, HO_3, HB⟩ := hrel
    cases gk with
    | zero => exact absurd HA.out (by simp [laws_shades.l0])
    | succ k1 =>
      have H := HA.out
      clear HA
      simp only [laws_shades.l0] at H
      by_cases c4 : x9_1 < 256
      · rw [if_pos c4] at H
        have c4b0 : decide (x9_1 < 256) = true := decide_eq_true c4
        clear c4
        by_cases c5 : (l0.length : Int) > 0
        · rw [if_pos c5] at H
          have c5b0 : decide (0 < (l0.length : Int)) = true := decide_eq_true c5
          have c5b1 : decide (0 < l0.length) = true := decide_eq_true (by omega)
          clear c5
          by_cases c6 : (l0.length : Int) = 0
          · rw [if_pos c6] at H
            exact absurd H (by simp)
          · rw [if_neg c6] at H
            have c6b0 : ((l0.length : Int) == 0) = false := beq_eq_false_iff_ne.mpr c6
            have c6b1 : ((l0.length : Int) != 0) = true := bne_iff_ne.mpr c6
            have c6b2 : ¬ (l0 = []) := fun h_ => c6 (by rw [h_]; rfl)
            obtain ⟨ji7, hji7⟩ : ∃ j_ : Int, (Int.tmod x9_1 (l0.length : Int)) = j_ := ⟨_, rfl⟩
            replace H : (if 0 ≤ (ji7) then (if (ji7) < (l0.length : Int) then (if 0 ≤ (Int.tmod (wrap64 ((wrap64 (x9_1 * 3)) + 1)) (l0.length : Int)) then (if (Int.tmod (wrap64 ((wrap64 (x9_1 * 3)) + 1)) (l0.length : Int)) < (l0.length : Int) then (if 0 ≤ (Int.tmod (wrap64 ((wrap64 (x9_1 * 5)) + 2)) (l0.length : Int)) then (if (Int.tmod (wrap64 ((wrap64 (x9_1 * 5)) + 2)) (l0.length : Int)) < (l0.length : Int) then (if x3_1.length < 4398046511104 then (laws_shades.l0 k1 l0 (x3_1 ++ [(⟨wrap64 (257 * (wrap64 (rd l0 (ji7)))), wrap64 (257 * (wrap64 (rd l0 (Int.tmod (wrap64 ((wrap64 (x9_1 * 3)) + 1)) (l0.length : Int))))), wrap64 (257 * (wrap64 (rd l0 (Int.tmod (wrap64 ((wrap64 (x9_1 * 5)) + 2)) (l0.length : Int))))), 65535⟩ : S57)]) (wrap64 (x9_1 + 1))) else (none)) else (none)) else (none)) else (none)) else (none)) else (none)) else (none)) = some r := by first | (rw [hji7] at H; exact H) | (simp only [hji7] at H ⊢; exact H)
            by_cases c8 : 0 ≤ (ji7)
            · rw [if_pos c8] at H
              have c8b0 : decide (0 ≤ (ji7)) = true := decide_eq_true c8
              clear c8
              by_cases c9 : (ji7) < (l0.length : Int)
              · rw [if_pos c9] at H
                have c9b0 : decide ((ji7) < (l0.length : Int)) = true := decide_eq_true c9
                clear c9
                obtain ⟨ji10, hji10⟩ : ∃ j_ : Int, (Int.tmod (wrap64 ((wrap64 (x9_1 * 3)) + 1)) (l0.length : Int)) = j_ := ⟨_, rfl⟩
                replace H : (if 0 ≤ (ji10) then (if (ji10) < (l0.length : Int) then (if 0 ≤ (Int.tmod (wrap64 ((wrap64 (x9_1 * 5)) + 2)) (l0.length : Int)) then (if (Int.tmod (wrap64 ((wrap64 (x9_1 * 5)) + 2)) (l0.length : Int)) < (l0.length : Int) then (if x3_1.length < 4398046511104 then (laws_shades.l0 k1 l0 (x3_1 ++ [(⟨wrap64 (257 * (wrap64 (rd l0 (ji7)))), wrap64 (257 * (wrap64 (rd l0 (ji10)))), wrap64 (257 * (wrap64 (rd l0 (Int.tmod (wrap64 ((wrap64 (x9_1 * 5)) + 2)) (l0.length : Int))))), 65535⟩ : S57)]) (wrap64 (x9_1 + 1))) else (none)) else (none)) else (none)) else (none)) else (none)) = some r := by first | (rw [hji10] at H; exact H) | (simp only [hji10] at H ⊢; exact H)
                by_cases c11 : 0 ≤ (ji10)
                · rw [if_pos c11] at H
                  have c11b0 : decide (0 ≤ (ji10)) = true := decide_eq_true c11
                  clear c11
                  by_cases c12 : (ji10) < (l0.length : Int)
                  · rw [if_pos c12] at H
                    have c12b0 : decide ((ji10) < (l0.length : Int)) = true := decide_eq_true c12
                    clear c12
                    obtain ⟨ji13, hji13⟩ : ∃ j_ : Int, (Int.tmod (wrap64 ((wrap64 (x9_1 * 5)) + 2)) (l0.length : Int)) = j_ := ⟨_, rfl⟩
                    replace H : (if 0 ≤ (ji13) then (if (ji13) < (l0.length : Int) then (if x3_1.length < 4398046511104 then (laws_shades.l0 k1 l0 (x3_1 ++ [(⟨wrap64 (257 * (wrap64 (rd l0 (ji7)))), wrap64 (257 * (wrap64 (rd l0 (ji10)))), wrap64 (257 * (wrap64 (rd l0 (ji13)))), 65535⟩ : S57)]) (wrap64 (x9_1 + 1))) else (none)) else (none)) else (none)) = some r := by first | (rw [hji13] at H; exact H) | (simp only [hji13] at H ⊢; exact H)
                    by_cases c14 : 0 ≤ (ji13)
                    · rw [if_pos c14] at H
                      have c14b0 : decide (0 ≤ (ji13)) = true := decide_eq_true c14
                      clear c14
                      by_cases c15 : (ji13) < (l0.length : Int)
                      · rw [if_pos c15] at H
                        have c15b0 : decide ((ji13) < (l0.length : Int)) = true := decide_eq_true c15
                        clear c15
                        by_cases c16 : x3_1.length < 4398046511104
                        · rw [if_pos c16] at H
                          have LMc16 := Aside0.mk c16
                          clear c16
                          obtain ⟨y269, hy269⟩ : ∃ y_ : List (S57), y_ = (x3_1 ++ [(⟨wrap64 (257 * (wrap64 (rd l0 (ji7)))), wrap64 (257 * (wrap64 (rd l0 (ji10)))), wrap64 (257 * (wrap64 (rd l0 (ji13)))), 65535⟩ : S57)]) := ⟨_, rfl⟩
                          replace H : (laws_shades.l0 k1 l0 y269 (wrap64 (x9_1 + 1))) = some r := by first | (rw [hy269]; with_reducible exact H) | (have H2_ := (Option.bind_some _ _).symm.trans H; rw [hy269]; with_reducible exact H2_) | (have H2_ := (Option.bind_some _ _).symm.trans H; with_reducible exact H2_) | with_reducible exact H | (rw [hy269]; exact H) | exact H
                          have Ny269 := Aside0.mk hy269
                          clear hy269
                          have H' := Aside0.mk H
                          clear H
                          have p266 : 0 ≤ ((ji7) : Int) := of_decide_eq_true (by first | (with_reducible assumption) | assumption)
                          have q266 : (ji7) < (l0.length : Int) := of_decide_eq_true (by first | (with_reducible assumption) | assumption)
                          obtain ⟨ad266, e266, hx266_0⟩ := Kd.at_int HR0.out (ji7) p266 q266
                          cases e266
                          replace hx266_0 := (HB.out.cell (World.block_lt_of_cell? w _ hx266_0)).trans hx266_0
                          replace p266 := eq_true p266
                          replace q266 := eq_true q266
                          have p267 : 0 ≤ ((ji10) : Int) := of_decide_eq_true (by first | (with_reducible assumption) | assumption)
                          have q267 : (ji10) < (l0.length : Int) := of_decide_eq_true (by first | (with_reducible assumption) | assumption)
                          obtain ⟨ad267, e267, hx267_0⟩ := Kd.at_int HR0.out (ji10) p267 q267
                          obtain rfl : ad266 = ad267 := (by injection e267)
                          replace hx267_0 := (HB.out.cell (World.block_lt_of_cell? w _ hx267_0)).trans hx267_0
                          replace p267 := eq_true p267
                          replace q267 := eq_true q267
                          have p268 : 0 ≤ ((ji13) : Int) := of_decide_eq_true (by first | (with_reducible assumption) | assumption)
                          have q268 : (ji13) < (l0.length : Int) := of_decide_eq_true (by first | (with_reducible assumption) | assumption)
                          obtain ⟨ad268, e268, hx268_0⟩ := Kd.at_int HR0.out (ji13) p268 q268
                          obtain rfl : ad266 = ad268 := (by injection e268)
                          replace hx268_0 := (HB.out.cell (World.block_lt_of_cell? w _ hx268_0)).trans hx268_0
                          replace p268 := eq_true p268
                          replace q268 := eq_true q268
                          go_wp2_with (first | ((with_reducible refine gate_builtin (b := .append) (xs := #[.tmp 49, .tmp 57]) rfl ?_); at_builtin; refine Kd.R_append k57 (w0 := w) w.heap.size rfl (.tmp 49) (.tmp 57) 30 57 (.agg #[(.int .i64 0), (.int .i64 0), (.int .i64 0), (.int .i64 0)]) 32 rfl Tryd.underlying30 info57 rfl (by decide) (by omega) u3 x3_1 (⟨wrap64 (257 * (wrap64 (rd l0 (ji7)))), wrap64 (257 * (wrap64 (rd l0 (ji10)))), wrap64 (257 * (wrap64 (rd l0 (ji13)))), 65535⟩ : S57) [.int .i64 (wrap64 (257 * (wrap64 (rd l0 (ji7))))), .int .i64 (wrap64 (257 * (wrap64 (rd l0 (ji10))))), .int .i64 (wrap64 (257 * (wrap64 (rd l0 (ji13))))), .int .i64 65535] (fun _ => True) (fun _ => False) rfl rfl ?aP (fun _ hk => hk.elim) ?aF ?aO ?aB ?aS ?aL ?_; (case aP => exact k57_mkM _ _ _ (⟨wrap64 (257 * (wrap64 (rd l0 (ji7)))), wrap64 (257 * (wrap64 (rd l0 (ji10)))), wrap64 (257 * (wrap64 (rd l0 (ji13)))), 65535⟩ : S57)); (case aB => exact (by repeat (first | (with_reducible first | exact HB.out | apply below_alloc | apply pw_below_drewN | apply below_drew1) | exact HB.out))); (case aF => exact (fun _ _ => trivial)); (case aO => exact (by (with_reducible repeat (first | apply Kd.R_alloc | apply Kd.R_drewN | apply Kd.R_drew)); exact HO_3.out)); (case aS => exact (below_size (by repeat (first | (with_reducible first | exact HB.out | apply below_alloc | apply pw_below_drewN | apply below_drew1) | exact HB.out)))); (case aL => have := LMc16.out; omega); intro v270 w17 ho hb hg hat; rw [← Ny269.out] at ho; have n0_ := Aside0.mk (hb); have n1_ := Aside0.mk (ho); clear HB; clear HO_3; have HB := n0_; have HO271 := n1_; clear n0_ n1_; clear ho hb hg hat))
                          repeat (go_quiet (first | ((with_reducible refine gate_builtin (b := .append) (xs := #[.tmp 49, .tmp 57]) rfl ?_); at_builtin; refine Kd.R_append k57 (w0 := w) w.heap.size rfl (.tmp 49) (.tmp 57) 30 57 (.agg #[(.int .i64 0), (.int .i64 0), (.int .i64 0), (.int .i64 0)]) 32 rfl Tryd.underlying30 info57 rfl (by decide) (by omega) u3 x3_1 (⟨wrap64 (257 * (wrap64 (rd l0 (ji7)))), wrap64 (257 * (wrap64 (rd l0 (ji10)))), wrap64 (257 * (wrap64 (rd l0 (ji13)))), 65535⟩ : S57) [.int .i64 (wrap64 (257 * (wrap64 (rd l0 (ji7))))), .int .i64 (wrap64 (257 * (wrap64 (rd l0 (ji10))))), .int .i64 (wrap64 (257 * (wrap64 (rd l0 (ji13))))), .int .i64 65535] (fun _ => True) (fun _ => False) rfl rfl ?aP (fun _ hk => hk.elim) ?aF ?aO ?aB ?aS ?aL ?_; (case aP => exact k57_mkM _ _ _ (⟨wrap64 (257 * (wrap64 (rd l0 (ji7)))), wrap64 (257 * (wrap64 (rd l0 (ji10)))), wrap64 (257 * (wrap64 (rd l0 (ji13)))), 65535⟩ : S57)); (case aB => exact (by repeat (first | (with_reducible first | exact HB.out | apply below_alloc | apply pw_below_drewN | apply below_drew1) | exact HB.out))); (case aF => exact (fun _ _ => trivial)); (case aO => exact (by (with_reducible repeat (first | apply Kd.R_alloc | apply Kd.R_drewN | apply Kd.R_drew)); exact HO_3.out)); (case aS => exact (below_size (by repeat (first | (with_reducible first | exact HB.out | apply below_alloc | apply pw_below_drewN | apply below_drew1) | exact HB.out)))); (case aL => have := LMc16.out; omega); intro v270 w17 ho hb hg hat; rw [← Ny269.out] at ho; have n0_ := Aside0.mk (hb); have n1_ := Aside0.mk (ho); clear HB; clear HO_3; have HB := n0_; have HO271 := n1_; clear n0_ n1_; clear ho hb hg hat)); try go_wp2_with (first | ((with_reducible refine gate_builtin (b := .append) (xs := #[.tmp 49, .tmp 57]) rfl ?_); at_builtin; refine Kd.R_append k57 (w0 := w) w.heap.size rfl (.tmp 49) (.tmp 57) 30 57 (.agg #[(.int .i64 0), (.int .i64 0), (.int .i64 0), (.int .i64 0)]) 32 rfl Tryd.underlying30 info57 rfl (by decide) (by omega) u3 x3_1 (⟨wrap64 (257 * (wrap64 (rd l0 (ji7)))), wrap64 (257 * (wrap64 (rd l0 (ji10)))), wrap64 (257 * (wrap64 (rd l0 (ji13)))), 65535⟩ : S57) [.int .i64 (wrap64 (257 * (wrap64 (rd l0 (ji7))))), .int .i64 (wrap64 (257 * (wrap64 (rd l0 (ji10))))), .int .i64 (wrap64 (257 * (wrap64 (rd l0 (ji13))))), .int .i64 65535] (fun _ => True) (fun _ => False) rfl rfl ?aP (fun _ hk => hk.elim) ?aF ?aO ?aB ?aS ?aL ?_; (case aP => exact k57_mkM _ _ _ (⟨wrap64 (257 * (wrap64 (rd l0 (ji7)))), wrap64 (257 * (wrap64 (rd l0 (ji10)))), wrap64 (257 * (wrap64 (rd l0 (ji13)))), 65535⟩ : S57)); (case aB => exact (by repeat (first | (with_reducible first | exact HB.out | apply below_alloc | apply pw_below_drewN | apply below_drew1) | exact HB.out))); (case aF => exact (fun _ _ => trivial)); (case aO => exact (by (with_reducible repeat (first | apply Kd.R_alloc | apply Kd.R_drewN | apply Kd.R_drew)); exact HO_3.out)); (case aS => exact (below_size (by repeat (first | (with_reducible first | exact HB.out | apply below_alloc | apply pw_below_drewN | apply below_drew1) | exact HB.out)))); (case aL => have := LMc16.out; omega); intro v270 w17 ho hb hg hat; rw [← Ny269.out] at ho; have n0_ := Aside0.mk (hb); have n1_ := Aside0.mk (ho); clear HB; clear HO_3; have HB := n0_; have HO271 := n1_; clear n0_ n1_; clear ho hb hg hat)))
                          go_roundg k1
                          case measure => have := HK1.out; omega
                          case rel => exact ⟨(y269), (wrap64 (x9_1 + 1)), (by first | rfl | (simp; done) | (simp [*]; done)), H', ⟨by have := HK1.out; omega⟩, ⟨by (with_reducible repeat (first | apply Kd.R_alloc | apply Kd.R_drewN | apply Kd.R_drew)); exact HO271.out⟩, ⟨by repeat (first | (with_reducible first | exact HB.out | apply below_alloc | apply pw_below_drewN | apply below_drew1) | exact HB.out)⟩⟩
                        · rw [if_neg c16] at H
                          exact absurd H (by simp)
                      · rw [if_neg c15] at H
                        exact absurd H (by simp)
                    · rw [if_neg c14] at H
                      exact absurd H (by simp)
                  · rw [if_neg c12] at H
                    exact absurd H (by simp)
                · rw [if_neg c11] at H
                  exact absurd H (by simp)
              · rw [if_neg c9] at H
                exact absurd H (by simp)
            · rw [if_neg c8] at H
              exact absurd H (by simp)
        · rw [if_neg c5] at H
          have c5b0 : decide (0 < (l0.length : Int)) = false := decide_eq_false c5
          have c5b1 : decide (0 < l0.length) = false := decide_eq_false (by omega)
          clear c5
          by_cases c18 : x3_1.length < 4398046511104
          · rw [if_pos c18] at H
            have LMc18 := Aside0.mk c18
            clear c18
            obtain ⟨y272, hy272⟩ : ∃ y_ : List (S57), y_ = (x3_1 ++ [(⟨wrap64 (257 * x9_1), wrap64 (257 * (wrap64 (255 - x9_1))), wrap64 (257 * (Int.tmod (wrap64 (x9_1 * 7)) 256)), 65535⟩ : S57)]) := ⟨_, rfl⟩
            replace H : (laws_shades.l0 k1 l0 y272 (wrap64 (x9_1 + 1))) = some r := by first | (rw [hy272]; with_reducible exact H) | (have H2_ := (Option.bind_some _ _).symm.trans H; rw [hy272]; with_reducible exact H2_) | (have H2_ := (Option.bind_some _ _).symm.trans H; with_reducible exact H2_) | with_reducible exact H | (rw [hy272]; exact H) | exact H
            have Ny272 := Aside0.mk hy272
            clear hy272
            have H' := Aside0.mk H
            clear H
            go_wp2_with (first | ((with_reducible refine gate_builtin (b := .append) (xs := #[.tmp 49, .tmp 57]) rfl ?_); at_builtin; refine Kd.R_append k57 (w0 := w) w.heap.size rfl (.tmp 49) (.tmp 57) 30 57 (.agg #[(.int .i64 0), (.int .i64 0), (.int .i64 0), (.int .i64 0)]) 32 rfl Tryd.underlying30 info57 rfl (by decide) (by omega) u3 x3_1 (⟨wrap64 (257 * x9_1), wrap64 (257 * (wrap64 (255 - x9_1))), wrap64 (257 * (Int.tmod (wrap64 (x9_1 * 7)) 256)), 65535⟩ : S57) [.int .i64 (wrap64 (257 * x9_1)), .int .i64 (wrap64 (257 * (wrap64 (255 - x9_1)))), .int .i64 (wrap64 (257 * (Int.tmod (wrap64 (x9_1 * 7)) 256))), .int .i64 65535] (fun _ => True) (fun _ => False) rfl rfl ?aP (fun _ hk => hk.elim) ?aF ?aO ?aB ?aS ?aL ?_; (case aP => exact k57_mkM _ _ _ (⟨wrap64 (257 * x9_1), wrap64 (257 * (wrap64 (255 - x9_1))), wrap64 (257 * (Int.tmod (wrap64 (x9_1 * 7)) 256)), 65535⟩ : S57)); (case aB => exact (by repeat (first | (with_reducible first | exact HB.out | apply below_alloc | apply pw_below_drewN | apply below_drew1) | exact HB.out))); (case aF => exact (fun _ _ => trivial)); (case aO => exact (by (with_reducible repeat (first | apply Kd.R_alloc | apply Kd.R_drewN | apply Kd.R_drew)); exact HO_3.out)); (case aS => exact (below_size (by repeat (first | (with_reducible first | exact HB.out | apply below_alloc | apply pw_below_drewN | apply below_drew1) | exact HB.out)))); (case aL => have := LMc18.out; omega); intro v273 w19 ho hb hg hat; rw [← Ny272.out] at ho; have n0_ := Aside0.mk (hb); have n1_ := Aside0.mk (ho); clear HB; clear HO_3; have HB := n0_; have HO274 := n1_; clear n0_ n1_; clear ho hb hg hat))
            repeat (go_quiet (first | ((with_reducible refine gate_builtin (b := .append) (xs := #[.tmp 49, .tmp 57]) rfl ?_); at_builtin; refine Kd.R_append k57 (w0 := w) w.heap.size rfl (.tmp 49) (.tmp 57) 30 57 (.agg #[(.int .i64 0), (.int .i64 0), (.int .i64 0), (.int .i64 0)]) 32 rfl Tryd.underlying30 info57 rfl (by decide) (by omega) u3 x3_1 (⟨wrap64 (257 * x9_1), wrap64 (257 * (wrap64 (255 - x9_1))), wrap64 (257 * (Int.tmod (wrap64 (x9_1 * 7)) 256)), 65535⟩ : S57) [.int .i64 (wrap64 (257 * x9_1)), .int .i64 (wrap64 (257 * (wrap64 (255 - x9_1)))), .int .i64 (wrap64 (257 * (Int.tmod (wrap64 (x9_1 * 7)) 256))), .int .i64 65535] (fun _ => True) (fun _ => False) rfl rfl ?aP (fun _ hk => hk.elim) ?aF ?aO ?aB ?aS ?aL ?_; (case aP => exact k57_mkM _ _ _ (⟨wrap64 (257 * x9_1), wrap64 (257 * (wrap64 (255 - x9_1))), wrap64 (257 * (Int.tmod (wrap64 (x9_1 * 7)) 256)), 65535⟩ : S57)); (case aB => exact (by repeat (first | (with_reducible first | exact HB.out | apply below_alloc | apply pw_below_drewN | apply below_drew1) | exact HB.out))); (case aF => exact (fun _ _ => trivial)); (case aO => exact (by (with_reducible repeat (first | apply Kd.R_alloc | apply Kd.R_drewN | apply Kd.R_drew)); exact HO_3.out)); (case aS => exact (below_size (by repeat (first | (with_reducible first | exact HB.out | apply below_alloc | apply pw_below_drewN | apply below_drew1) | exact HB.out)))); (case aL => have := LMc18.out; omega); intro v273 w19 ho hb hg hat; rw [← Ny272.out] at ho; have n0_ := Aside0.mk (hb); have n1_ := Aside0.mk (ho); clear HB; clear HO_3; have HB := n0_; have HO274 := n1_; clear n0_ n1_; clear ho hb hg hat)); try go_wp2_with (first | ((with_reducible refine gate_builtin (b := .append) (xs := #[.tmp 49, .tmp 57]) rfl ?_); at_builtin; refine Kd.R_append k57 (w0 := w) w.heap.size rfl (.tmp 49) (.tmp 57) 30 57 (.agg #[(.int .i64 0), (.int .i64 0), (.int .i64 0), (.int .i64 0)]) 32 rfl Tryd.underlying30 info57 rfl (by decide) (by omega) u3 x3_1 (⟨wrap64 (257 * x9_1), wrap64 (257 * (wrap64 (255 - x9_1))), wrap64 (257 * (Int.tmod (wrap64 (x9_1 * 7)) 256)), 65535⟩ : S57) [.int .i64 (wrap64 (257 * x9_1)), .int .i64 (wrap64 (257 * (wrap64 (255 - x9_1)))), .int .i64 (wrap64 (257 * (Int.tmod (wrap64 (x9_1 * 7)) 256))), .int .i64 65535] (fun _ => True) (fun _ => False) rfl rfl ?aP (fun _ hk => hk.elim) ?aF ?aO ?aB ?aS ?aL ?_; (case aP => exact k57_mkM _ _ _ (⟨wrap64 (257 * x9_1), wrap64 (257 * (wrap64 (255 - x9_1))), wrap64 (257 * (Int.tmod (wrap64 (x9_1 * 7)) 256)), 65535⟩ : S57)); (case aB => exact (by repeat (first | (with_reducible first | exact HB.out | apply below_alloc | apply pw_below_drewN | apply below_drew1) | exact HB.out))); (case aF => exact (fun _ _ => trivial)); (case aO => exact (by (with_reducible repeat (first | apply Kd.R_alloc | apply Kd.R_drewN | apply Kd.R_drew)); exact HO_3.out)); (case aS => exact (below_size (by repeat (first | (with_reducible first | exact HB.out | apply below_alloc | apply pw_below_drewN | apply below_drew1) | exact HB.out)))); (case aL => have := LMc18.out; omega); intro v273 w19 ho hb hg hat; rw [← Ny272.out] at ho; have n0_ := Aside0.mk (hb); have n1_ := Aside0.mk (ho); clear HB; clear HO_3; have HB := n0_; have HO274 := n1_; clear n0_ n1_; clear ho hb hg hat)))
            go_roundg k1
            case measure => have := HK1.out; omega
            case rel => exact ⟨(y272), (wrap64 (x9_1 + 1)), (by first | rfl | (simp; done) | (simp [*]; done)), H', ⟨by have := HK1.out; omega⟩, ⟨by (with_reducible repeat (first | apply Kd.R_alloc | apply Kd.R_drewN | apply Kd.R_drew)); exact HO274.out⟩, ⟨by repeat (first | (with_reducible first | exact HB.out | apply below_alloc | apply pw_below_drewN | apply below_drew1) | exact HB.out)⟩⟩
          · rw [if_neg c18] at H
            exact absurd H (by simp)
      · rw [if_neg c4] at H
        have c4b0 : decide (x9_1 < 256) = false := decide_eq_false c4
        clear c4
        obtain rfl := Option.some.inj H
        go_wp2
        repeat (go_quiet (fail); try go_wp2)
        go_ret
        exact ⟨_, by first | rfl | (simp [errW_none, errW_some] <;> rfl) | (simp [*, errW_none, errW_some] <;> rfl), by (with_reducible repeat (first | apply Kd.R_alloc | apply Kd.R_drewN | apply Kd.R_drew)); exact HO_3.out, by repeat (first | (with_reducible first | exact HB.out | apply below_alloc | apply pw_below_drewN | apply below_drew1) | exact HB.out)⟩

-- NOT PRINTED: function 22 (slices_Clone_byte_byte)

-- NOT PRINTED: function 41 (tiff_newReaderAt)

-- NOT PRINTED: function 42 (tiff_safeReadAt)

-- NOT PRINTED: function 52 (tiff_decoder_ifdUint)

-- NOT PRINTED: function 43 (tiff_decoder_parseIFD)

-- NOT PRINTED: function 44 (tiff_decoder_firstVal)

-- NOT PRINTED: function 31 (tiff_newDecoder)

-- NOT PRINTED: function 23 (tiff_DecodeConfig)

/-- A state of type 93 at block g of W; what its slices lead to came in by w0. -/
def IsS93 (w0 W : World) (g : Nat) (f0 : List Int) (f1 : Int) (f2 : Int) : Prop := ∃ A0 c0, W.heap[g]? = some (.cells #[.slice A0 f0.length c0, .int .i64 f1, .int .i64 f2] 93 (0, 0)) ∧ w0.heap.size ≤ g ∧ Kd.C (Kd.int .u8) w0 A0 f0.length f0
theorem IsS93.grown {w0 W : World} {g : Nat} {f0 : List Int} {f1 : Int} {f2 : Int} {W1 : World} {row : Option Nat} (h : IsS93 w0 W g f0 f1 f2) (hw : W.grownBy W1 row) (hne : some g ≠ row) : IsS93 w0 W1 g f0 f1 f2 := by
  obtain ⟨A0, c0, hb, hg, hr0⟩ := h
  exact ⟨A0, c0, blk_grown hb hw hne, hg, hr0⟩
theorem IsS93.fresh {w0 W : World} {g : Nat} {f0 : List Int} {f1 : Int} {f2 : Int} (h : IsS93 w0 W g f0 f1 f2) : ∀ k, W.heap.size ≤ k → k ≠ g := by
  obtain ⟨A0, c0, hb, hg, hr0⟩ := h
  exact Kd.freshB hb
theorem IsS93.kept {w0 W : World} {g : Nat} {f0 : List Int} {f1 : Int} {f2 : Int} {W1 : World} {S : Nat → Prop} (h : IsS93 w0 W g f0 f1 f2) (hk : Kept W W1 S) (hne : ¬ S g) : IsS93 w0 W1 g f0 f1 f2 := by
  obtain ⟨A0, c0, hb, hg, hr0⟩ := h
  exact ⟨A0, c0, blk_kept hb hk hne, hg, hr0⟩
theorem IsS93.below {w0 W : World} {g : Nat} {f0 : List Int} {f1 : Int} {f2 : Int} {W1 : World} (h : IsS93 w0 W g f0 f1 f2) (hw : Below W.heap.size W W1) : IsS93 w0 W1 g f0 f1 f2 := h.grown (grown_of_below hw none) (by simp)
theorem IsS93.alloc {w0 W : World} {g : Nat} {f0 : List Int} {f1 : Int} {f2 : Int} (h : IsS93 w0 W g f0 f1 f2) (o : Obj) : IsS93 w0 (W.alloc o) g f0 f1 f2 := h.below (below_alloc (Below.refl _ _) o)
theorem IsS93.drewN {w0 W : World} {g : Nat} {f0 : List Int} {f1 : Int} {f2 : Int} (h : IsS93 w0 W g f0 f1 f2) (m : Nat) : IsS93 w0 (W.drewN m) g f0 f1 f2 := h
theorem IsS93.drew {w0 W : World} {g : Nat} {f0 : List Int} {f1 : Int} {f2 : Int} (h : IsS93 w0 W g f0 f1 f2) : IsS93 w0 W.drew g f0 f1 f2 := h
theorem IsS93.at_ {w0 W : World} {g : Nat} {f0 : List Int} {f1 : Int} {f2 : Int} {w' : World} {m : Nat} (hq : W.drewN m = w') (h : IsS93 w0 W g f0 f1 f2) : IsS93 w0 w' g f0 f1 f2 := by subst hq; exact IsS93.drewN h m
theorem IsS93.apart {w0 W : World} {g : Nat} {f0 : List Int} {f1 : Int} {f2 : Int} {α : Type} {d : Kd α} {e : Nat} {base : Nat} {ok : Nat → Prop} {v : Value} {xs : List α} (h : IsS93 w0 W g f0 f1 f2) (ho : d.R e W base ok v xs) (ht : ∀ q, q ∈ e :: d.E → q ≠ 93) : d.R e W base (fun k => ok k ∧ k ≠ g) v xs := by
  obtain ⟨A0, c0, hb, hg, hr0⟩ := h
  exact Kd.R_types ho hb ht
theorem IsS93.own_ne {w0 W : World} {g : Nat} {f0 : List Int} {f1 : Int} {f2 : Int} {α : Type} {d : Kd α} {e : Nat} {base : Nat} {ok : Nat → Prop} {v : Value} {xs : List α} (h : IsS93 w0 W g f0 f1 f2) (ho : d.R e W base ok v xs) (ht : e ≠ 93) : some g ≠ v.ownBlock := by
  obtain ⟨A0, c0, hb, hg, hr0⟩ := h
  exact Kd.R_ne ho hb ht
theorem IsS93.lt {w0 W : World} {g : Nat} {f0 : List Int} {f1 : Int} {f2 : Int} (h : IsS93 w0 W g f0 f1 f2) : g < W.heap.size := by
  obtain ⟨A0, c0, hb, hg, hr0⟩ := h
  exact blk_lt hb
theorem IsS93.far {w0 W : World} {g : Nat} {f0 : List Int} {f1 : Int} {f2 : Int} {p : Addr} (h : IsS93 w0 W g f0 f1 f2) (hne : g ≠ p.block) (u : Value) : IsS93 w0 (W.setCell p u) g f0 f1 f2 := by
  obtain ⟨A0, c0, hb, hg, hr0⟩ := h
  exact ⟨A0, c0, blk_far hb hne u, hg, hr0⟩
theorem IsS93.new (w0 W : World) (A0 : Option Addr) (c0 : Nat) (f0 : List Int) (f1 : Int) (f2 : Int) (hB : Below w0.heap.size w0 W) (hr0 : Kd.C (Kd.int .u8) w0 A0 f0.length f0) : IsS93 w0 (W.alloc (.cells #[.slice A0 f0.length c0, .int .i64 f1, .int .i64 f2] 93)) W.heap.size f0 f1 f2 := ⟨A0, c0, by simpa using heap_alloc_new W _, hB.size, hr0⟩

/-! ### bytes_NewReader: function 24 -/
def bytes_NewReader.f (l0 : List Int) : Option (List Int × Int × Int) := some (l0, 0, (-1))
set_option maxHeartbeats 8000000 in
set_option maxRecDepth 100000 in
theorem bytes_NewReader.calls (A0 : Option Addr) (c0 : Nat) (l0 : List Int) (r1 : List Int) (r2 : Int) (r3 : Int) (w0 w : World) (hB : Below w0.heap.size w0 w) (hr0 : Kd.C (Kd.int .u8) w0 A0 l0.length l0) (hc0 : l0.length ≤ c0) (h : bytes_NewReader.f l0 = some (r1, r2, r3)) :
    Calls Tryd.prog 24 #[.slice A0 l0.length c0] w fun e w' => ∃ g_ : Nat, e = .returned (.pointer (some ⟨g_, 0, none⟩)) ∧ IsS93 w0 w' g_ r1 r2 r3 ∧ Below w0.heap.size w0 w' ∧ Below w.heap.size w w' := by
  have hu93 := Tryd.underlying93
  have HR0 := Aside0.mk hr0
  have HC0 := Aside0.mk hc0
  clear hr0 hc0
  have HBW := Aside0.mk (Below.refl w.heap.size w)
  have HW0 := Aside0.mk hB.size
  have HB := Aside0.mk hB
  clear hB
  have H : (some (l0, 0, (-1))) = some (r1, r2, r3) := h
  clear h
  simp only [Option.some.injEq, Prod.mk.injEq] at H
  obtain ⟨rfl, rfl, rfl⟩ := H
  go_enter Tryd.func24, Tryd.ntmps24
  go_wp2_with (first | ((with_reducible refine gate_dst (N := 5) rfl ?_); refine box_event ?hg (N := 5) ?hd (cs := #[.slice A0 l0.length c0, .int .i64 0, .int .i64 (-1)]) (t := 93) ?hr ?_; (case hd => rfl); (case hg => rfl); (case hr => first | (go_simp; done) | (go_simp; rfl)); intro gb275 hg w2 hbox hb; have n0_ := Aside0.mk (below_step HBW.out hb); have n1_ := Aside0.mk (below_step (by repeat (first | (with_reducible first | exact HB.out | apply below_alloc | apply pw_below_drewN | apply below_drew1) | exact HB.out)) hb); have n2_ := Aside0.mk (hbox); have n3_ := Aside0.mk ((by rw [hg]; exact (below_size (by repeat (first | (with_reducible first | exact HBW.out | apply below_alloc | apply pw_below_drewN | apply below_drew1) | exact HBW.out))) : w.heap.size ≤ gb275)); have n4_ := Aside0.mk ((Nat.le_trans HW0.out (by rw [hg]; exact (below_size (by repeat (first | (with_reducible first | exact HBW.out | apply below_alloc | apply pw_below_drewN | apply below_drew1) | exact HBW.out))) : w.heap.size ≤ gb275) : w0.heap.size ≤ gb275)); clear HBW; clear HB; have HBW := n0_; have HB := n1_; have BK275 := n2_; have GW275 := n3_; have GE275 := n4_; clear n0_ n1_ n2_ n3_ n4_; clear hb hbox hg))
  go_ret
  exact ⟨_, rfl, (show IsS93 w0 _ gb275 l0 0 (-1) from ⟨_, _, by (with_reducible repeat (first | refine blk_drewN ?_ _ | refine blk_drew ?_ | refine blk_alloc ?_ _)); exact BK275.out, GE275.out, HR0.out⟩), by repeat (first | (with_reducible first | exact HB.out | apply below_alloc | apply pw_below_drewN | apply below_drew1 | refine below_set ?_ GE275.out) | exact HB.out), by repeat (first | (with_reducible first | exact HBW.out | apply below_alloc | apply pw_below_drewN | apply below_drew1 | refine below_set ?_ GW275.out) | exact HBW.out)⟩

-- NOT PRINTED: function 45 (reflectlite_ValueOf)

-- NOT PRINTED: function 46 (reflectlite_Value_Type)

-- NOT PRINTED: function 47 (reflectlite_Value_IsNil)

-- NOT PRINTED: function 53 (reflectlite_TypeOf)

-- NOT PRINTED: function 54 (reflectlite_Value_Elem)

-- NOT PRINTED: function 55 (reflectlite_Value_Set)

-- NOT PRINTED: function 48 (errors_as)

-- NOT PRINTED: function 32 (errors_As)

-- NOT PRINTED: function 25 (impl_codeOf)

-- NOT PRINTED: function 26 (impl_shadesOf)

-- NOT PRINTED: function 11 (impl_Config)

/-! ### spec_Tiff_KindOf: function 12 -/
def spec_Tiff_KindOf.j0 : Nat → Int → Bool → Int → Int → Int → Int → Int → Int → Bool → Int → Int → Int → Option (Int)
  | 0, _, _, _, _, _, _, _, _, _, _, _, _ => none
  | k + 1, x3, x277000, x277001, x277002, x277003, x277004, x277005, x277006, x277007, x277008, x277009, x277010 => if x277003 < 2 then (some (wrap64 (1 + x3))) else (if x277003 = 3 then (some 7) else (if x277004 = 2 then (some (wrap64 (5 + x3))) else (some (wrap64 (3 + x3)))))
def spec_Tiff_KindOf.f (k : Nat) (a0_0 : Bool) (a0_1 : Int) (a0_2 : Int) (a0_3 : Int) (a0_4 : Int) (a0_5 : Int) (a0_6 : Int) (a0_7 : Bool) (a0_8 : Int) (a0_9 : Int) (a0_10 : Int) : Option (Int) := if a0_5 = 16 then (spec_Tiff_KindOf.j0 k 1 a0_0 a0_1 a0_2 a0_3 a0_4 a0_5 a0_6 a0_7 a0_8 a0_9 a0_10) else (spec_Tiff_KindOf.j0 k 0 a0_0 a0_1 a0_2 a0_3 a0_4 a0_5 a0_6 a0_7 a0_8 a0_9 a0_10)
theorem spec_Tiff_KindOf.mono_l : ∀ k, (∀ y0 y1 y2 y3 y4 y5 y6 y7 y8 y9 y10 y11, LeO (spec_Tiff_KindOf.j0 k y0 y1 y2 y3 y4 y5 y6 y7 y8 y9 y10 y11) (spec_Tiff_KindOf.j0 (k + 1) y0 y1 y2 y3 y4 y5 y6 y7 y8 y9 y10 y11))
  | 0 => fun _ _ _ _ _ _ _ _ _ _ _ _ r h => by simp [spec_Tiff_KindOf.j0] at h
  | k + 1 => by
    have ih0 := spec_Tiff_KindOf.mono_l k
    · intro y0 y1 y2 y3 y4 y5 y6 y7 y8 y9 y10 y11
      unfold spec_Tiff_KindOf.j0
      repeat' first
      | (with_reducible exact ih0 _ _ _ _ _ _ _ _ _ _ _ _)
      | (with_reducible exact LeO.refl _)
      | (with_reducible exact LeO.none _)
      | (with_reducible refine LeO.ite ?_ ?_)
      | (with_reducible refine LeO.bind ?_ (fun _ => ?_))
      | exact ih0 _ _ _ _ _ _ _ _ _ _ _ _
      | exact LeO.none _
      | refine LeO.ite ?_ ?_
      | refine LeO.bind ?_ (fun _ => ?_)
theorem spec_Tiff_KindOf.mono : ∀ a0 a1 a2 a3 a4 a5 a6 a7 a8 a9 a10 k, LeO (spec_Tiff_KindOf.f k a0 a1 a2 a3 a4 a5 a6 a7 a8 a9 a10) (spec_Tiff_KindOf.f (k + 1) a0 a1 a2 a3 a4 a5 a6 a7 a8 a9 a10) := by
  intro a0 a1 a2 a3 a4 a5 a6 a7 a8 a9 a10 k
  have ih0 := spec_Tiff_KindOf.mono_l k
  unfold spec_Tiff_KindOf.f
  repeat' first
      | (with_reducible exact ih0 _ _ _ _ _ _ _ _ _ _ _ _)
      | (with_reducible exact LeO.refl _)
      | (with_reducible exact LeO.none _)
      | (with_reducible refine LeO.ite ?_ ?_)
      | (with_reducible refine LeO.bind ?_ (fun _ => ?_))
      | exact ih0 _ _ _ _ _ _ _ _ _ _ _ _
      | exact LeO.none _
      | refine LeO.ite ?_ ?_
      | refine LeO.bind ?_ (fun _ => ?_)
set_option maxHeartbeats 8000000 in
set_option maxRecDepth 100000 in
theorem spec_Tiff_KindOf.calls (k : Nat) (a0_0 : Bool) (a0_1 : Int) (a0_2 : Int) (a0_3 : Int) (a0_4 : Int) (a0_5 : Int) (a0_6 : Int) (a0_7 : Bool) (a0_8 : Int) (a0_9 : Int) (a0_10 : Int) (r : Int) (w : World) (h : spec_Tiff_KindOf.f k a0_0 a0_1 a0_2 a0_3 a0_4 a0_5 a0_6 a0_7 a0_8 a0_9 a0_10 = some r) :
    Calls Tryd.prog 12 #[.agg #[.bool a0_0, .int .i64 a0_1, .int .i64 a0_2, .int .i64 a0_3, .int .i64 a0_4, .int .i64 a0_5, .int .i64 a0_6, .bool a0_7, .int .i64 a0_8, .int .i64 a0_9, .int .i64 a0_10]] w fun e w' => e = .returned (.int .i64 r) ∧ Below w.heap.size w w' := by
  have hu24 := Tryd.underlying24
  have HB := Aside0.mk (Below.refl w.heap.size w)
  have H : (if a0_5 = 16 then (spec_Tiff_KindOf.j0 k 1 a0_0 a0_1 a0_2 a0_3 a0_4 a0_5 a0_6 a0_7 a0_8 a0_9 a0_10) else (spec_Tiff_KindOf.j0 k 0 a0_0 a0_1 a0_2 a0_3 a0_4 a0_5 a0_6 a0_7 a0_8 a0_9 a0_10)) = some r := h
  clear h
  have HC2 := Aside0.mk H
  clear H
  go_enter Tryd.func12, Tryd.ntmps12
  go_upto_if 6 with (first | ((with_reducible refine gate_dst (N := 1) rfl ?_); refine box_event ?hg (N := 1) ?hd (cs := #[.bool a0_0, .int .i64 a0_1, .int .i64 a0_2, .int .i64 a0_3, .int .i64 a0_4, .int .i64 a0_5, .int .i64 a0_6, .bool a0_7, .int .i64 a0_8, .int .i64 a0_9, .int .i64 a0_10]) (t := 24) ?hr ?_; (case hd => rfl); (case hg => rfl); (case hr => first | (go_simp; done) | (go_simp; rfl)); intro gb276 hg w3 hbox hb; have n0_ := Aside0.mk (below_step (by repeat (first | (with_reducible first | exact HB.out | apply below_alloc | apply pw_below_drewN | apply below_drew1) | exact HB.out)) hb); have n1_ := Aside0.mk (hbox); have n2_ := Aside0.mk ((by rw [hg]; exact (below_size (by repeat (first | (with_reducible first | exact HB.out | apply below_alloc | apply pw_below_drewN | apply below_drew1) | exact HB.out))) : w.heap.size ≤ gb276)); have n3_ := Aside0.mk ((by rw [hg]; exact (below_size (by repeat (first | (with_reducible first | exact HB.out | apply below_alloc | apply pw_below_drewN | apply below_drew1) | exact HB.out))) : w.heap.size ≤ gb276)); clear HB; have HB := n0_; have BK276 := n1_; have GW276 := n2_; have GE276 := n3_; clear n0_ n1_ n2_ n3_; clear hb hbox hg; have hcz4_0 : w3.cell? ⟨gb276, 0, none⟩ = some (.bool a0_0) := (blk_cell BK276.out 0).trans rfl; have hcz4_1 : w3.cell? ⟨gb276, 1, none⟩ = some (.int .i64 a0_1) := (blk_cell BK276.out 1).trans rfl; have hcz4_2 : w3.cell? ⟨gb276, 2, none⟩ = some (.int .i64 a0_2) := (blk_cell BK276.out 2).trans rfl; have hcz4_3 : w3.cell? ⟨gb276, 3, none⟩ = some (.int .i64 a0_3) := (blk_cell BK276.out 3).trans rfl; have hcz4_4 : w3.cell? ⟨gb276, 4, none⟩ = some (.int .i64 a0_4) := (blk_cell BK276.out 4).trans rfl; have hcz4_5 : w3.cell? ⟨gb276, 5, none⟩ = some (.int .i64 a0_5) := (blk_cell BK276.out 5).trans rfl; have hcz4_6 : w3.cell? ⟨gb276, 6, none⟩ = some (.int .i64 a0_6) := (blk_cell BK276.out 6).trans rfl; have hcz4_7 : w3.cell? ⟨gb276, 7, none⟩ = some (.bool a0_7) := (blk_cell BK276.out 7).trans rfl; have hcz4_8 : w3.cell? ⟨gb276, 8, none⟩ = some (.int .i64 a0_8) := (blk_cell BK276.out 8).trans rfl; have hcz4_9 : w3.cell? ⟨gb276, 9, none⟩ = some (.int .i64 a0_9) := (blk_cell BK276.out 9).trans rfl; have hcz4_10 : w3.cell? ⟨gb276, 10, none⟩ = some (.int .i64 a0_10) := (blk_cell BK276.out 10).trans rfl; have hfz4_0 := blk_frozen BK276.out 0; have hfz4_1 := blk_frozen BK276.out 1; have hfz4_2 := blk_frozen BK276.out 2; have hfz4_3 := blk_frozen BK276.out 3; have hfz4_4 := blk_frozen BK276.out 4; have hfz4_5 := blk_frozen BK276.out 5; have hfz4_6 := blk_frozen BK276.out 6; have hfz4_7 := blk_frozen BK276.out 7; have hfz4_8 := blk_frozen BK276.out 8; have hfz4_9 := blk_frozen BK276.out 9; have hfz4_10 := blk_frozen BK276.out 10))
  (try simp only [Act.put, List.setIfInBounds_toArray, List.set_cons_zero, List.set_cons_succ])
  go_cut [3] (fun v3 wc => ∃ (kq : Nat) (x3_1 : Int), v3 = .int .i64 x3_1 ∧ Aside0 (spec_Tiff_KindOf.j0 kq x3_1 a0_0 a0_1 a0_2 a0_3 a0_4 a0_5 a0_6 a0_7 a0_8 a0_9 a0_10 = some r) ∧ Aside0 (kq ≤ k) ∧ Aside0 (wc.heap[gb276]? = some (.cells #[.bool a0_0, .int .i64 a0_1, .int .i64 a0_2, .int .i64 a0_3, .int .i64 a0_4, .int .i64 a0_5, .int .i64 a0_6, .bool a0_7, .int .i64 a0_8, .int .i64 a0_9, .int .i64 a0_10] 24 (0, 0))) ∧ Aside0 (Below w.heap.size w wc))
  case first =>
    have H := HC2.out
    clear HC2
    by_cases c5 : a0_5 = 16
    · rw [if_pos c5] at H
      have c5b0 : (a0_5 == 16) = true := beq_iff_eq.mpr c5
      have c5b1 : (a0_5 != 16) = false := bne_eq_false_iff_eq.mpr c5
      clear c5
      (first | rw [c5b0] | (simp only [i64_w, i32_w]; rw [c5b0]) | skip)
      have H' := Aside0.mk H
      clear H
      go_wp2
      go_meet
      case rel => exact ⟨_, (1), (by first | rfl | (simp; done) | (simp [*]; done)), H', ⟨by first | omega | exact Nat.le_refl _⟩, ⟨by (with_reducible repeat (first | refine blk_drewN ?_ _ | refine blk_drew ?_ | refine blk_alloc ?_ _)); exact BK276.out⟩, ⟨by repeat (first | (with_reducible first | exact HB.out | apply below_alloc | apply pw_below_drewN | apply below_drew1 | refine below_set ?_ GE276.out) | exact HB.out)⟩⟩
    · rw [if_neg c5] at H
      have c5b0 : (a0_5 == 16) = false := beq_eq_false_iff_ne.mpr c5
      have c5b1 : (a0_5 != 16) = true := bne_iff_ne.mpr c5
      (first | rw [c5b0] | (simp only [i64_w, i32_w]; rw [c5b0]) | skip)
      have H' := Aside0.mk H
      clear H
      go_wp2
      go_meet
      case rel => exact ⟨_, (0), (by first | rfl | (simp; done) | (simp [*]; done)), H', ⟨by first | omega | exact Nat.le_refl _⟩, ⟨by (with_reducible repeat (first | refine blk_drewN ?_ _ | refine blk_drew ?_ | refine blk_alloc ?_ _)); exact BK276.out⟩, ⟨by repeat (first | (with_reducible first | exact HB.out | apply below_alloc | apply pw_below_drewN | apply below_drew1 | refine below_set ?_ GE276.out) | exact HB.out)⟩⟩
  case rest =>
    clear HC2
    try clear c1
    try clear p2
    try clear c5
    try clear c5b0
    try clear c5b1
    try clear hcz4_0
    try clear hcz4_1
    try clear hcz4_10
    try clear hcz4_2
    try clear hcz4_3
    try clear hcz4_4
    try clear hcz4_5
    try clear hcz4_6
    try clear hcz4_7
    try clear hcz4_8
    try clear hcz4_9
    try clear hfz4_0
    try clear hfz4_1
    try clear hfz4_10
    try clear hfz4_2
    try clear hfz4_3
    try clear hfz4_4
    try clear hfz4_5
    try clear hfz4_6
    try clear hfz4_7
    try clear hfz4_8
    try clear hfz4_9
    obtain ⟨kq, x3_1, rfl, HA, HJ1, BK276, HB⟩ := hcut
    cases kq with
    | zero => exact absurd HA.out (by simp [spec_Tiff_KindOf.j0])
    | succ kj1 =>
      have H := HA.out
      clear HA
      simp only [spec_Tiff_KindOf.j0] at H
      by_cases c6 : a0_3 < 2
      · rw [if_pos c6] at H
        have c6b0 : decide (a0_3 < 2) = true := decide_eq_true c6
        clear c6
        obtain rfl := Option.some.inj H
        have hcz7_0 : wc.cell? ⟨gb276, 0, none⟩ = some (.bool a0_0) := (blk_cell BK276.out 0).trans rfl
        have hcz7_1 : wc.cell? ⟨gb276, 1, none⟩ = some (.int .i64 a0_1) := (blk_cell BK276.out 1).trans rfl
        have hcz7_2 : wc.cell? ⟨gb276, 2, none⟩ = some (.int .i64 a0_2) := (blk_cell BK276.out 2).trans rfl
        have hcz7_3 : wc.cell? ⟨gb276, 3, none⟩ = some (.int .i64 a0_3) := (blk_cell BK276.out 3).trans rfl
        have hcz7_4 : wc.cell? ⟨gb276, 4, none⟩ = some (.int .i64 a0_4) := (blk_cell BK276.out 4).trans rfl
        have hcz7_5 : wc.cell? ⟨gb276, 5, none⟩ = some (.int .i64 a0_5) := (blk_cell BK276.out 5).trans rfl
        have hcz7_6 : wc.cell? ⟨gb276, 6, none⟩ = some (.int .i64 a0_6) := (blk_cell BK276.out 6).trans rfl
        have hcz7_7 : wc.cell? ⟨gb276, 7, none⟩ = some (.bool a0_7) := (blk_cell BK276.out 7).trans rfl
        have hcz7_8 : wc.cell? ⟨gb276, 8, none⟩ = some (.int .i64 a0_8) := (blk_cell BK276.out 8).trans rfl
        have hcz7_9 : wc.cell? ⟨gb276, 9, none⟩ = some (.int .i64 a0_9) := (blk_cell BK276.out 9).trans rfl
        have hcz7_10 : wc.cell? ⟨gb276, 10, none⟩ = some (.int .i64 a0_10) := (blk_cell BK276.out 10).trans rfl
        have hfz7_0 := blk_frozen BK276.out 0
        have hfz7_1 := blk_frozen BK276.out 1
        have hfz7_2 := blk_frozen BK276.out 2
        have hfz7_3 := blk_frozen BK276.out 3
        have hfz7_4 := blk_frozen BK276.out 4
        have hfz7_5 := blk_frozen BK276.out 5
        have hfz7_6 := blk_frozen BK276.out 6
        have hfz7_7 := blk_frozen BK276.out 7
        have hfz7_8 := blk_frozen BK276.out 8
        have hfz7_9 := blk_frozen BK276.out 9
        have hfz7_10 := blk_frozen BK276.out 10
        go_wp2
        go_ret
        exact ⟨by first | rfl | (simp [errW_none, errW_some] <;> rfl) | (simp [*, errW_none, errW_some] <;> rfl), by repeat (first | (with_reducible first | exact HB.out | apply below_alloc | apply pw_below_drewN | apply below_drew1 | refine below_set ?_ GE276.out) | exact HB.out)⟩
      · rw [if_neg c6] at H
        have c6b0 : decide (a0_3 < 2) = false := decide_eq_false c6
        clear c6
        by_cases c8 : a0_3 = 3
        · rw [if_pos c8] at H
          have c8b0 : (a0_3 == 3) = true := beq_iff_eq.mpr c8
          have c8b1 : (a0_3 != 3) = false := bne_eq_false_iff_eq.mpr c8
          clear c8
          obtain rfl := Option.some.inj H
          have hcz9_0 : wc.cell? ⟨gb276, 0, none⟩ = some (.bool a0_0) := (blk_cell BK276.out 0).trans rfl
          have hcz9_1 : wc.cell? ⟨gb276, 1, none⟩ = some (.int .i64 a0_1) := (blk_cell BK276.out 1).trans rfl
          have hcz9_2 : wc.cell? ⟨gb276, 2, none⟩ = some (.int .i64 a0_2) := (blk_cell BK276.out 2).trans rfl
          have hcz9_3 : wc.cell? ⟨gb276, 3, none⟩ = some (.int .i64 a0_3) := (blk_cell BK276.out 3).trans rfl
          have hcz9_4 : wc.cell? ⟨gb276, 4, none⟩ = some (.int .i64 a0_4) := (blk_cell BK276.out 4).trans rfl
          have hcz9_5 : wc.cell? ⟨gb276, 5, none⟩ = some (.int .i64 a0_5) := (blk_cell BK276.out 5).trans rfl
          have hcz9_6 : wc.cell? ⟨gb276, 6, none⟩ = some (.int .i64 a0_6) := (blk_cell BK276.out 6).trans rfl
          have hcz9_7 : wc.cell? ⟨gb276, 7, none⟩ = some (.bool a0_7) := (blk_cell BK276.out 7).trans rfl
          have hcz9_8 : wc.cell? ⟨gb276, 8, none⟩ = some (.int .i64 a0_8) := (blk_cell BK276.out 8).trans rfl
          have hcz9_9 : wc.cell? ⟨gb276, 9, none⟩ = some (.int .i64 a0_9) := (blk_cell BK276.out 9).trans rfl
          have hcz9_10 : wc.cell? ⟨gb276, 10, none⟩ = some (.int .i64 a0_10) := (blk_cell BK276.out 10).trans rfl
          have hfz9_0 := blk_frozen BK276.out 0
          have hfz9_1 := blk_frozen BK276.out 1
          have hfz9_2 := blk_frozen BK276.out 2
          have hfz9_3 := blk_frozen BK276.out 3
          have hfz9_4 := blk_frozen BK276.out 4
          have hfz9_5 := blk_frozen BK276.out 5
          have hfz9_6 := blk_frozen BK276.out 6
          have hfz9_7 := blk_frozen BK276.out 7
          have hfz9_8 := blk_frozen BK276.out 8
          have hfz9_9 := blk_frozen BK276.out 9
          have hfz9_10 := blk_frozen BK276.out 10
          go_wp2
          go_ret
          exact ⟨by first | rfl | (simp [errW_none, errW_some] <;> rfl) | (simp [*, errW_none, errW_some] <;> rfl), by repeat (first | (with_reducible first | exact HB.out | apply below_alloc | apply pw_below_drewN | apply below_drew1 | refine below_set ?_ GE276.out) | exact HB.out)⟩
        · rw [if_neg c8] at H
          have c8b0 : (a0_3 == 3) = false := beq_eq_false_iff_ne.mpr c8
          have c8b1 : (a0_3 != 3) = true := bne_iff_ne.mpr c8
          by_cases c10 : a0_4 = 2
          · rw [if_pos c10] at H
            have c10b0 : (a0_4 == 2) = true := beq_iff_eq.mpr c10
            have c10b1 : (a0_4 != 2) = false := bne_eq_false_iff_eq.mpr c10
            clear c10
            obtain rfl := Option.some.inj H
            have hcz11_0 : wc.cell? ⟨gb276, 0, none⟩ = some (.bool a0_0) := (blk_cell BK276.out 0).trans rfl
            have hcz11_1 : wc.cell? ⟨gb276, 1, none⟩ = some (.int .i64 a0_1) := (blk_cell BK276.out 1).trans rfl
            have hcz11_2 : wc.cell? ⟨gb276, 2, none⟩ = some (.int .i64 a0_2) := (blk_cell BK276.out 2).trans rfl
            have hcz11_3 : wc.cell? ⟨gb276, 3, none⟩ = some (.int .i64 a0_3) := (blk_cell BK276.out 3).trans rfl
            have hcz11_4 : wc.cell? ⟨gb276, 4, none⟩ = some (.int .i64 a0_4) := (blk_cell BK276.out 4).trans rfl
            have hcz11_5 : wc.cell? ⟨gb276, 5, none⟩ = some (.int .i64 a0_5) := (blk_cell BK276.out 5).trans rfl
            have hcz11_6 : wc.cell? ⟨gb276, 6, none⟩ = some (.int .i64 a0_6) := (blk_cell BK276.out 6).trans rfl
            have hcz11_7 : wc.cell? ⟨gb276, 7, none⟩ = some (.bool a0_7) := (blk_cell BK276.out 7).trans rfl
            have hcz11_8 : wc.cell? ⟨gb276, 8, none⟩ = some (.int .i64 a0_8) := (blk_cell BK276.out 8).trans rfl
            have hcz11_9 : wc.cell? ⟨gb276, 9, none⟩ = some (.int .i64 a0_9) := (blk_cell BK276.out 9).trans rfl
            have hcz11_10 : wc.cell? ⟨gb276, 10, none⟩ = some (.int .i64 a0_10) := (blk_cell BK276.out 10).trans rfl
            have hfz11_0 := blk_frozen BK276.out 0
            have hfz11_1 := blk_frozen BK276.out 1
            have hfz11_2 := blk_frozen BK276.out 2
            have hfz11_3 := blk_frozen BK276.out 3
            have hfz11_4 := blk_frozen BK276.out 4
            have hfz11_5 := blk_frozen BK276.out 5
            have hfz11_6 := blk_frozen BK276.out 6
            have hfz11_7 := blk_frozen BK276.out 7
            have hfz11_8 := blk_frozen BK276.out 8
            have hfz11_9 := blk_frozen BK276.out 9
            have hfz11_10 := blk_frozen BK276.out 10
            go_wp2
            go_ret
            exact ⟨by first | rfl | (simp [errW_none, errW_some] <;> rfl) | (simp [*, errW_none, errW_some] <;> rfl), by repeat (first | (with_reducible first | exact HB.out | apply below_alloc | apply pw_below_drewN | apply below_drew1 | refine below_set ?_ GE276.out) | exact HB.out)⟩
          · rw [if_neg c10] at H
            have c10b0 : (a0_4 == 2) = false := beq_eq_false_iff_ne.mpr c10
            have c10b1 : (a0_4 != 2) = true := bne_iff_ne.mpr c10
            obtain rfl := Option.some.inj H
            have hcz12_0 : wc.cell? ⟨gb276, 0, none⟩ = some (.bool a0_0) := (blk_cell BK276.out 0).trans rfl
            have hcz12_1 : wc.cell? ⟨gb276, 1, none⟩ = some (.int .i64 a0_1) := (blk_cell BK276.out 1).trans rfl
            have hcz12_2 : wc.cell? ⟨gb276, 2, none⟩ = some (.int .i64 a0_2) := (blk_cell BK276.out 2).trans rfl
            have hcz12_3 : wc.cell? ⟨gb276, 3, none⟩ = some (.int .i64 a0_3) := (blk_cell BK276.out 3).trans rfl
            have hcz12_4 : wc.cell? ⟨gb276, 4, none⟩ = some (.int .i64 a0_4) := (blk_cell BK276.out 4).trans rfl
            have hcz12_5 : wc.cell? ⟨gb276, 5, none⟩ = some (.int .i64 a0_5) := (blk_cell BK276.out 5).trans rfl
            have hcz12_6 : wc.cell? ⟨gb276, 6, none⟩ = some (.int .i64 a0_6) := (blk_cell BK276.out 6).trans rfl
            have hcz12_7 : wc.cell? ⟨gb276, 7, none⟩ = some (.bool a0_7) := (blk_cell BK276.out 7).trans rfl
            have hcz12_8 : wc.cell? ⟨gb276, 8, none⟩ = some (.int .i64 a0_8) := (blk_cell BK276.out 8).trans rfl
            have hcz12_9 : wc.cell? ⟨gb276, 9, none⟩ = some (.int .i64 a0_9) := (blk_cell BK276.out 9).trans rfl
            have hcz12_10 : wc.cell? ⟨gb276, 10, none⟩ = some (.int .i64 a0_10) := (blk_cell BK276.out 10).trans rfl
            have hfz12_0 := blk_frozen BK276.out 0
            have hfz12_1 := blk_frozen BK276.out 1
            have hfz12_2 := blk_frozen BK276.out 2
            have hfz12_3 := blk_frozen BK276.out 3
            have hfz12_4 := blk_frozen BK276.out 4
            have hfz12_5 := blk_frozen BK276.out 5
            have hfz12_6 := blk_frozen BK276.out 6
            have hfz12_7 := blk_frozen BK276.out 7
            have hfz12_8 := blk_frozen BK276.out 8
            have hfz12_9 := blk_frozen BK276.out 9
            have hfz12_10 := blk_frozen BK276.out 10
            go_wp2
            go_ret
            exact ⟨by first | rfl | (simp [errW_none, errW_some] <;> rfl) | (simp [*, errW_none, errW_some] <;> rfl), by repeat (first | (with_reducible first | exact HB.out | apply below_alloc | apply pw_below_drewN | apply below_drew1 | refine below_set ?_ GE276.out) | exact HB.out)⟩

/-! ### spec_Same: function 13 -/
def spec_Same.l0 : Nat → List (S57) → List (S57) → Int → Int → Option (Bool)
  | 0, _, _, _, _ => none
  | k + 1, x0, x1, x12, x13 => if x13 < x12 then (if 0 ≤ x13 then (if x13 < (x0.length : Int) then (if x13 < (x1.length : Int) then (if (!(((rd_T57 x0 x13).f0) == ((rd_T57 x1 x13).f0)) || (!(((rd_T57 x0 x13).f1) == ((rd_T57 x1 x13).f1)) || (!(((rd_T57 x0 x13).f2) == ((rd_T57 x1 x13).f2)) || (!(((rd_T57 x0 x13).f3) == ((rd_T57 x1 x13).f3)))))) = true then (some false) else (spec_Same.l0 k x0 x1 x12 (wrap64 (x13 + 1)))) else (none)) else (none)) else (none)) else (some true)
def spec_Same.f (k : Nat) (l0 : List (S57)) (l1 : List (S57)) : Option (Bool) := if (l0.length : Int) = (l1.length : Int) then (spec_Same.l0 k l0 l1 (l0.length : Int) 0) else (some false)
theorem spec_Same.mono_l : ∀ k, (∀ y0 y1 y2 y3, LeO (spec_Same.l0 k y0 y1 y2 y3) (spec_Same.l0 (k + 1) y0 y1 y2 y3))
  | 0 => fun _ _ _ _ r h => by simp [spec_Same.l0] at h
  | k + 1 => by
    have ih0 := spec_Same.mono_l k
    · intro y0 y1 y2 y3
      unfold spec_Same.l0
      repeat' first
      | (with_reducible exact ih0 _ _ _ _)
      | (with_reducible exact LeO.refl _)
      | (with_reducible exact LeO.none _)
      | (with_reducible refine LeO.ite ?_ ?_)
      | (with_reducible refine LeO.bind ?_ (fun _ => ?_))
      | exact ih0 _ _ _ _
      | exact LeO.none _
      | refine LeO.ite ?_ ?_
      | refine LeO.bind ?_ (fun _ => ?_)
theorem spec_Same.mono : ∀ a0 a1 k, LeO (spec_Same.f k a0 a1) (spec_Same.f (k + 1) a0 a1) := by
  intro a0 a1 k
  have ih0 := spec_Same.mono_l k
  unfold spec_Same.f
  repeat' first
      | (with_reducible exact ih0 _ _ _ _)
      | (with_reducible exact LeO.refl _)
      | (with_reducible exact LeO.none _)
      | (with_reducible refine LeO.ite ?_ ?_)
      | (with_reducible refine LeO.bind ?_ (fun _ => ?_))
      | exact ih0 _ _ _ _
      | exact LeO.none _
      | refine LeO.ite ?_ ?_
      | refine LeO.bind ?_ (fun _ => ?_)
set_option maxHeartbeats 8000000 in
set_option maxRecDepth 100000 in
theorem spec_Same.calls (k : Nat) (A0 : Option Addr) (c0 : Nat) (l0 : List (S57)) (A1 : Option Addr) (c1 : Nat) (l1 : List (S57)) (r : Bool) (w : World) (hr0 : Kd.C k57 w A0 l0.length l0) (hc0 : l0.length ≤ c0) (hr1 : Kd.C k57 w A1 l1.length l1) (hc1 : l1.length ≤ c1) (h : spec_Same.f k l0 l1 = some r) :
    Calls Tryd.prog 13 #[.slice A0 l0.length c0, .slice A1 l1.length c1] w fun e w' => e = .returned (.bool r) ∧ Drawn0 w w' := by
  have hu57 := Tryd.underlying57
  have HR0 := Aside0.mk hr0
  have HC0 := Aside0.mk hc0
  clear hr0 hc0
  have HR1 := Aside0.mk hr1
  have HC1 := Aside0.mk hc1
  clear hr1 hc1
  have H : (if (l0.length : Int) = (l1.length : Int) then (spec_Same.l0 k l0 l1 (l0.length : Int) 0) else (some false)) = some r := h
  clear h
  by_cases c3 : (l0.length : Int) = (l1.length : Int)
  · rw [if_pos c3] at H
    have c3b0 : ((l0.length : Int) == (l1.length : Int)) = true := beq_iff_eq.mpr c3
    have c3b1 : ((l0.length : Int) != (l1.length : Int)) = false := bne_eq_false_iff_eq.mpr c3
    have c3b2 : (l0.length == l1.length) = true := by first | simpa using c3 | (simp at c3 ⊢; omega)
    clear c3
    have H' := Aside0.mk H
    clear H
    go_enter Tryd.func13, Tryd.ntmps13
    go_wp2
    repeat (go_quiet (fail); try go_wp2)
    go_loopg [13] k (fun kq v13 w' => ∃ (x13_1 : Int), v13 = .int .i64 x13_1 ∧ Aside0 (spec_Same.l0 kq l0 l1 (l0.length : Int) x13_1 = some r) ∧ Aside0 (kq ≤ k) ∧ Drawn0 w w')
    case atStart => exact ⟨(0), (by first | rfl | (simp; done) | (simp [*]; done)), H', ⟨Nat.le_refl _⟩, by repeat (first | exact Drawn0.refl _ | apply Drawn0.step)⟩
    case round =>
      clear H'
      try clear c1
      try clear p2
      try clear c3
      try clear c3b0
      try clear c3b1
      try clear c3b2
      obtain ⟨x13_1, rfl, HA, HK1, ⟨m1, rfl⟩⟩ := hrel
      cases gk with
      | zero => exact absurd HA.out (by simp [spec_Same.l0])
      | succ k1 =>
        have H := HA.out
        clear HA
        simp only [spec_Same.l0] at H
        by_cases c4 : x13_1 < (l0.length : Int)
        · rw [if_pos c4] at H
          have c4b0 : decide (x13_1 < (l0.length : Int)) = true := decide_eq_true c4
          clear c4
          by_cases c5 : 0 ≤ x13_1
          · rw [if_pos c5] at H
            have c5b0 : decide (0 ≤ x13_1) = true := decide_eq_true c5
            clear c5
            by_cases c6 : x13_1 < (l0.length : Int)
            · rw [if_pos c6] at H
              have c6b0 : decide (x13_1 < (l0.length : Int)) = true := decide_eq_true c6
              clear c6
              by_cases c7 : x13_1 < (l1.length : Int)
              · rw [if_pos c7] at H
                have c7b0 : decide (x13_1 < (l1.length : Int)) = true := decide_eq_true c7
                clear c7
                by_cases c8 : (!(((rd_T57 l0 x13_1).f0) == ((rd_T57 l1 x13_1).f0)) || (!(((rd_T57 l0 x13_1).f1) == ((rd_T57 l1 x13_1).f1)) || (!(((rd_T57 l0 x13_1).f2) == ((rd_T57 l1 x13_1).f2)) || (!(((rd_T57 l0 x13_1).f3) == ((rd_T57 l1 x13_1).f3)))))) = true
                · rw [if_pos c8] at H
                  have c8b0 : (!(((rd_T57 l0 x13_1).f0) == ((rd_T57 l1 x13_1).f0)) || (!(((rd_T57 l0 x13_1).f1) == ((rd_T57 l1 x13_1).f1)) || (!(((rd_T57 l0 x13_1).f2) == ((rd_T57 l1 x13_1).f2)) || (!(((rd_T57 l0 x13_1).f3) == ((rd_T57 l1 x13_1).f3)))))) = true := c8
                  clear c8
                  obtain rfl := Option.some.inj H
                  have p277 : 0 ≤ (x13_1 : Int) := of_decide_eq_true (by first | (with_reducible assumption) | assumption)
                  have q277 : x13_1 < (l0.length : Int) := of_decide_eq_true (by first | (with_reducible assumption) | assumption)
                  obtain ⟨ad277, e277, hx277_0, hx277_1, hx277_2, hx277_3⟩ := at_T57 HR0.out x13_1 p277 q277
                  cases e277
                  replace p277 := eq_true p277
                  replace q277 := eq_true q277
                  have p278 : 0 ≤ (x13_1 : Int) := of_decide_eq_true (by first | (with_reducible assumption) | assumption)
                  have q278 : x13_1 < (l1.length : Int) := of_decide_eq_true (by first | (with_reducible assumption) | assumption)
                  obtain ⟨ad278, e278, hx278_0, hx278_1, hx278_2, hx278_3⟩ := at_T57 HR1.out x13_1 p278 q278
                  cases e278
                  replace p278 := eq_true p278
                  replace q278 := eq_true q278
                  go_wp2
                  repeat (go_quiet (fail); try go_wp2)
                  go_ret
                  exact ⟨by first | rfl | (simp; done) | (simp [*]; done), by repeat (first | exact Drawn0.refl _ | apply Drawn0.step)⟩
                · rw [if_neg c8] at H
                  have c8b0 : (!(((rd_T57 l0 x13_1).f0) == ((rd_T57 l1 x13_1).f0)) || (!(((rd_T57 l0 x13_1).f1) == ((rd_T57 l1 x13_1).f1)) || (!(((rd_T57 l0 x13_1).f2) == ((rd_T57 l1 x13_1).f2)) || (!(((rd_T57 l0 x13_1).f3) == ((rd_T57 l1 x13_1).f3)))))) = false := by simpa using c8
                  clear c8
                  have H' := Aside0.mk H
                  clear H
                  have p277 : 0 ≤ (x13_1 : Int) := of_decide_eq_true (by first | (with_reducible assumption) | assumption)
                  have q277 : x13_1 < (l0.length : Int) := of_decide_eq_true (by first | (with_reducible assumption) | assumption)
                  obtain ⟨ad277, e277, hx277_0, hx277_1, hx277_2, hx277_3⟩ := at_T57 HR0.out x13_1 p277 q277
                  cases e277
                  replace p277 := eq_true p277
                  replace q277 := eq_true q277
                  have p278 : 0 ≤ (x13_1 : Int) := of_decide_eq_true (by first | (with_reducible assumption) | assumption)
                  have q278 : x13_1 < (l1.length : Int) := of_decide_eq_true (by first | (with_reducible assumption) | assumption)
                  obtain ⟨ad278, e278, hx278_0, hx278_1, hx278_2, hx278_3⟩ := at_T57 HR1.out x13_1 p278 q278
                  cases e278
                  replace p278 := eq_true p278
                  replace q278 := eq_true q278
                  go_wp2
                  repeat (go_quiet (fail); try go_wp2)
                  go_roundg k1
                  case measure => have := HK1.out; omega
                  case rel => exact ⟨(wrap64 (x13_1 + 1)), (by first | rfl | (simp; done) | (simp [*]; done)), H', ⟨by have := HK1.out; omega⟩, by repeat (first | exact Drawn0.refl _ | apply Drawn0.step)⟩
              · rw [if_neg c7] at H
                exact absurd H (by simp)
            · rw [if_neg c6] at H
              exact absurd H (by simp)
          · rw [if_neg c5] at H
            exact absurd H (by simp)
        · rw [if_neg c4] at H
          have c4b0 : decide (x13_1 < (l0.length : Int)) = false := decide_eq_false c4
          clear c4
          obtain rfl := Option.some.inj H
          go_wp2
          repeat (go_quiet (fail); try go_wp2)
          go_ret
          exact ⟨by first | rfl | (simp; done) | (simp [*]; done), by repeat (first | exact Drawn0.refl _ | apply Drawn0.step)⟩
  · rw [if_neg c3] at H
    have c3b0 : ((l0.length : Int) == (l1.length : Int)) = false := beq_eq_false_iff_ne.mpr c3
    have c3b1 : ((l0.length : Int) != (l1.length : Int)) = true := bne_iff_ne.mpr c3
    have c3b2 : (l0.length == l1.length) = false := by first | simpa using c3 | (simp at c3 ⊢; omega)
    obtain rfl := Option.some.inj H
    go_enter Tryd.func13, Tryd.ntmps13
    go_wp2
    repeat (go_quiet (fail); try go_wp2)
    go_ret
    exact ⟨by first | rfl | (simp; done) | (simp [*]; done), by repeat (first | exact Drawn0.refl _ | apply Drawn0.step)⟩

/-! ### laws_dots: function 14 -/
def laws_dots.l0 : Nat → List (S57) → List (S76) → Int → Int → Option ((List (S57)))
  | 0, _, _, _, _ => none
  | k + 1, x3, x7, x8, x9 => if x9 < x8 then (if 0 ≤ x9 then (if x9 < (x7.length : Int) then (if x3.length < 4398046511104 then (laws_dots.l0 k (x3 ++ [(⟨wrap64 (257 * (wrap64 ((rd_T76 x7 x9).f0))), wrap64 (257 * (wrap64 ((rd_T76 x7 x9).f1))), wrap64 (257 * (wrap64 ((rd_T76 x7 x9).f2))), wrap64 (257 * (wrap64 ((rd_T76 x7 x9).f3)))⟩ : S57)]) x7 x8 (wrap64 (x9 + 1))) else (none)) else (none)) else (none)) else (some x3)
def laws_dots.f (k : Nat) (l0 : List (S76)) : Option ((List (S57))) := laws_dots.l0 k (([] : List (S57))) l0 (l0.length : Int) 0
theorem laws_dots.mono_l : ∀ k, (∀ y0 y1 y2 y3, LeO (laws_dots.l0 k y0 y1 y2 y3) (laws_dots.l0 (k + 1) y0 y1 y2 y3))
  | 0 => fun _ _ _ _ r h => by simp [laws_dots.l0] at h
  | k + 1 => by
    have ih0 := laws_dots.mono_l k
    · intro y0 y1 y2 y3
      unfold laws_dots.l0
      repeat' first
      | (with_reducible exact ih0 _ _ _ _)
      | (with_reducible exact LeO.refl _)
      | (with_reducible exact LeO.none _)
      | (with_reducible refine LeO.ite ?_ ?_)
      | (with_reducible refine LeO.bind ?_ (fun _ => ?_))
      | exact ih0 _ _ _ _
      | exact LeO.none _
      | refine LeO.ite ?_ ?_
      | refine LeO.bind ?_ (fun _ => ?_)
theorem laws_dots.mono : ∀ a0 k, LeO (laws_dots.f k a0) (laws_dots.f (k + 1) a0) := by
  intro a0 k
  have ih0 := laws_dots.mono_l k
  unfold laws_dots.f
  repeat' first
      | (with_reducible exact ih0 _ _ _ _)
      | (with_reducible exact LeO.refl _)
      | (with_reducible exact LeO.none _)
      | (with_reducible refine LeO.ite ?_ ?_)
      | (with_reducible refine LeO.bind ?_ (fun _ => ?_))
      | exact ih0 _ _ _ _
      | exact LeO.none _
      | refine LeO.ite ?_ ?_
      | refine LeO.bind ?_ (fun _ => ?_)
set_option maxHeartbeats 8000000 in
set_option maxRecDepth 100000 in
theorem laws_dots.calls (k : Nat) (A0 : Option Addr) (c0 : Nat) (l0 : List (S76)) (r : List (S57)) (w : World) (hr0 : Kd.C k76 w A0 l0.length l0) (hc0 : l0.length ≤ c0) (h : laws_dots.f k l0 = some r) :
    Calls Tryd.prog 14 #[.slice A0 l0.length c0] w fun e w' => ∃ v0_ : Value, e = .returned (v0_) ∧ Kd.R k57 57 w' w.heap.size (fun _ => True) v0_ r ∧ Below w.heap.size w w' := by
  have hu76 := Tryd.underlying76
  have hu57 := Tryd.underlying57
  have HR0 := Aside0.mk hr0
  have HC0 := Aside0.mk hc0
  clear hr0 hc0
  have HB := Aside0.mk (Below.refl w.heap.size w)
  have H : (laws_dots.l0 k (([] : List (S57))) l0 (l0.length : Int) 0) = some r := h
  clear h
  obtain ⟨y279, hy279⟩ : ∃ y_ : List (S57), y_ = (([] : List (S57))) := ⟨_, rfl⟩
  replace H : (laws_dots.l0 k y279 l0 (l0.length : Int) 0) = some r := by first | (rw [hy279]; with_reducible exact H) | (have H2_ := (Option.bind_some _ _).symm.trans H; rw [hy279]; with_reducible exact H2_) | (have H2_ := (Option.bind_some _ _).symm.trans H; with_reducible exact H2_) | with_reducible exact H | (rw [hy279]; exact H) | exact H
  have Ny279 := Aside0.mk hy279
  clear hy279
  have H' := Aside0.mk H
  clear H
  go_enter Tryd.func14, Tryd.ntmps14
  go_wp2_with (first | ((with_reducible refine gate_dst (N := 6) rfl ?_); refine Kd.R_lit k57 _ 57 ?hg (N := 6) ?hd (xs := ([] : List (S57))) (inner := []) (ok := fun _ => True) (okp := fun _ => True) ?hr ?hp (fun _ hk => hk) trivial (Below.refl _ _) (Nat.le_refl _) (by simp) ?_; (case hd => rfl); (case hg => rfl); (case hr => first | (go_simp; done) | (go_simp; rfl)); (case hp => exact (Reps.none _ _)); intro v280 w2 ho3 hb hg_ hnew_; clear hg_ hnew_; (first | rw [← Ny279.out] at ho3 | (simp only [Int.reduceToNat] at ho3; rw [← Ny279.out] at ho3)); have n0_ := Aside0.mk (Kd.R_lower ho3 (below_size (by repeat (first | (with_reducible first | exact HB.out | apply below_alloc | apply pw_below_drewN | apply below_drew1) | exact HB.out)))); have n1_ := Aside0.mk (below_step (by repeat (first | (with_reducible first | exact HB.out | apply below_alloc | apply pw_below_drewN | apply below_drew1) | exact HB.out)) hb); clear HB; have HO281 := n0_; have HB := n1_; clear n0_ n1_; clear hb ho3))
  go_loopg [3, 9] k (fun kq v3 v9 w' => ∃ (x3_1 : List (S57)) (x9_1 : Int), v9 = .int .i64 x9_1 ∧ Aside0 (laws_dots.l0 kq x3_1 l0 (l0.length : Int) x9_1 = some r) ∧ Aside0 (kq ≤ k) ∧ Aside0 (Kd.R k57 57 w' w.heap.size (fun _ => True) v3 x3_1) ∧ Aside0 (Below w.heap.size w w'))
  case atStart => exact ⟨(y279), (0), (by first | rfl | (simp; done) | (simp [*]; done)), H', ⟨Nat.le_refl _⟩, ⟨by (with_reducible repeat (first | apply Kd.R_alloc | apply Kd.R_drewN | apply Kd.R_drew)); exact HO281.out⟩, ⟨by repeat (first | (with_reducible first | exact HB.out | apply below_alloc | apply pw_below_drewN | apply below_drew1) | exact HB.out)⟩⟩
  case round =>
    clear H'
    try clear c1
    try clear p2
    obtain ⟨x3_1, x9_1, rfl, HA, HK1, HO_3, HB⟩ := hrel
    cases gk with
    | zero => exact absurd HA.out (by simp [laws_dots.l0])
    | succ k1 =>
      have H := HA.out
      clear HA
      simp only [laws_dots.l0] at H
      by_cases c4 : x9_1 < (l0.length : Int)
      · rw [if_pos c4] at H
        have c4b0 : decide (x9_1 < (l0.length : Int)) = true := decide_eq_true c4
        clear c4
        by_cases c5 : 0 ≤ x9_1
        · rw [if_pos c5] at H
          have c5b0 : decide (0 ≤ x9_1) = true := decide_eq_true c5
          clear c5
          by_cases c6 : x9_1 < (l0.length : Int)
          · rw [if_pos c6] at H
            have c6b0 : decide (x9_1 < (l0.length : Int)) = true := decide_eq_true c6
            clear c6
            by_cases c7 : x3_1.length < 4398046511104
            · rw [if_pos c7] at H
              have LMc7 := Aside0.mk c7
              clear c7
              obtain ⟨y284, hy284⟩ : ∃ y_ : List (S57), y_ = (x3_1 ++ [(⟨wrap64 (257 * (wrap64 ((rd_T76 l0 x9_1).f0))), wrap64 (257 * (wrap64 ((rd_T76 l0 x9_1).f1))), wrap64 (257 * (wrap64 ((rd_T76 l0 x9_1).f2))), wrap64 (257 * (wrap64 ((rd_T76 l0 x9_1).f3)))⟩ : S57)]) := ⟨_, rfl⟩
              replace H : (laws_dots.l0 k1 y284 l0 (l0.length : Int) (wrap64 (x9_1 + 1))) = some r := by first | (rw [hy284]; with_reducible exact H) | (have H2_ := (Option.bind_some _ _).symm.trans H; rw [hy284]; with_reducible exact H2_) | (have H2_ := (Option.bind_some _ _).symm.trans H; with_reducible exact H2_) | with_reducible exact H | (rw [hy284]; exact H) | exact H
              have Ny284 := Aside0.mk hy284
              clear hy284
              have H' := Aside0.mk H
              clear H
              have p282 : 0 ≤ (x9_1 : Int) := of_decide_eq_true (by first | (with_reducible assumption) | assumption)
              have q282 : x9_1 < (l0.length : Int) := of_decide_eq_true (by first | (with_reducible assumption) | assumption)
              obtain ⟨ad282, e282, hx282_0, hx282_1, hx282_2, hx282_3⟩ := at_T76 HR0.out x9_1 p282 q282
              cases e282
              replace hx282_0 := (HB.out.cell (World.block_lt_of_cell? w _ hx282_0)).trans hx282_0
              replace hx282_1 := (HB.out.cell (World.block_lt_of_cell? w _ hx282_1)).trans hx282_1
              replace hx282_2 := (HB.out.cell (World.block_lt_of_cell? w _ hx282_2)).trans hx282_2
              replace hx282_3 := (HB.out.cell (World.block_lt_of_cell? w _ hx282_3)).trans hx282_3
              replace p282 := eq_true p282
              replace q282 := eq_true q282
              go_wp2_with (first | ((with_reducible refine gate_dst (N := 5) rfl ?_); refine box_event ?hg (N := 5) ?hd (cs := #[.int .u8 0, .int .u8 0, .int .u8 0, .int .u8 0]) (t := 76) ?hr ?_; (case hd => rfl); (case hg => rfl); (case hr => first | (go_simp; done) | (go_simp; rfl)); intro gb283 hg w8 hbox hb; have n0_ := Aside0.mk (Kd.R_below (by (with_reducible repeat (first | apply Kd.R_alloc | apply Kd.R_drewN | apply Kd.R_drew)); exact HO_3.out) hb); have n1_ := Aside0.mk (below_step (by repeat (first | (with_reducible first | exact HB.out | apply below_alloc | apply pw_below_drewN | apply below_drew1) | exact HB.out)) hb); have n2_ := Aside0.mk (hbox); have n3_ := Aside0.mk ((by rw [hg]; exact (below_size (by repeat (first | (with_reducible first | exact HB.out | apply below_alloc | apply pw_below_drewN | apply below_drew1) | exact HB.out))) : w.heap.size ≤ gb283)); have n4_ := Aside0.mk ((by rw [hg]; exact (below_size (by repeat (first | (with_reducible first | exact HB.out | apply below_alloc | apply pw_below_drewN | apply below_drew1) | exact HB.out))) : w.heap.size ≤ gb283)); clear HO_3; clear HB; have HO_3 := n0_; have HB := n1_; have BK283 := n2_; have GW283 := n3_; have GE283 := n4_; clear n0_ n1_ n2_ n3_ n4_; clear hb hbox hg; have hcz9_0 : w8.cell? ⟨gb283, 0, none⟩ = some (.int .u8 0) := (blk_cell BK283.out 0).trans rfl; have hcz9_1 : w8.cell? ⟨gb283, 1, none⟩ = some (.int .u8 0) := (blk_cell BK283.out 1).trans rfl; have hcz9_2 : w8.cell? ⟨gb283, 2, none⟩ = some (.int .u8 0) := (blk_cell BK283.out 2).trans rfl; have hcz9_3 : w8.cell? ⟨gb283, 3, none⟩ = some (.int .u8 0) := (blk_cell BK283.out 3).trans rfl; have hfz9_0 := blk_frozen BK283.out 0; have hfz9_1 := blk_frozen BK283.out 1; have hfz9_2 := blk_frozen BK283.out 2; have hfz9_3 := blk_frozen BK283.out 3) | ((with_reducible refine gate_builtin (b := .append) (xs := #[.tmp 13, .tmp 31]) rfl ?_); at_builtin; refine Kd.R_append k57 (w0 := w) w.heap.size rfl (.tmp 13) (.tmp 31) 30 57 (.agg #[(.int .i64 0), (.int .i64 0), (.int .i64 0), (.int .i64 0)]) 32 rfl Tryd.underlying30 info57 rfl (by decide) (by omega) u3 x3_1 (⟨wrap64 (257 * (wrap64 ((rd_T76 l0 x9_1).f0))), wrap64 (257 * (wrap64 ((rd_T76 l0 x9_1).f1))), wrap64 (257 * (wrap64 ((rd_T76 l0 x9_1).f2))), wrap64 (257 * (wrap64 ((rd_T76 l0 x9_1).f3)))⟩ : S57) [.int .i64 (wrap64 (257 * (wrap64 ((rd_T76 l0 x9_1).f0)))), .int .i64 (wrap64 (257 * (wrap64 ((rd_T76 l0 x9_1).f1)))), .int .i64 (wrap64 (257 * (wrap64 ((rd_T76 l0 x9_1).f2)))), .int .i64 (wrap64 (257 * (wrap64 ((rd_T76 l0 x9_1).f3))))] (fun _ => True) (fun _ => False) rfl (by first | (go_simp; done) | (go_simp; rfl)) ?aP (fun _ hk => hk.elim) ?aF ?aO ?aB ?aS ?aL ?_; (case aP => exact k57_mkM _ _ _ (⟨wrap64 (257 * (wrap64 ((rd_T76 l0 x9_1).f0))), wrap64 (257 * (wrap64 ((rd_T76 l0 x9_1).f1))), wrap64 (257 * (wrap64 ((rd_T76 l0 x9_1).f2))), wrap64 (257 * (wrap64 ((rd_T76 l0 x9_1).f3)))⟩ : S57)); (case aB => exact (by repeat (first | (with_reducible first | exact HB.out | apply below_alloc | apply pw_below_drewN | apply below_drew1 | refine below_set ?_ GE283.out) | exact HB.out))); (case aF => exact (fun _ _ => trivial)); (case aO => exact (by (with_reducible repeat (first | apply Kd.R_alloc | apply Kd.R_drewN | apply Kd.R_drew)); exact Kd.R_mono (Kd.R_far (p := ⟨gb283, 3, none⟩) (Kd.R_far (p := ⟨gb283, 2, none⟩) (Kd.R_far (p := ⟨gb283, 1, none⟩) (Kd.R_far (p := ⟨gb283, 0, none⟩) (Kd.R_types HO_3.out BK283.out (by decide)) (fun _ hk => hk.2) (.int .u8 ((rd_T76 l0 x9_1).f0))) (fun _ hk => hk.2) (.int .u8 ((rd_T76 l0 x9_1).f1))) (fun _ hk => hk.2) (.int .u8 ((rd_T76 l0 x9_1).f2))) (fun _ hk => hk.2) (.int .u8 ((rd_T76 l0 x9_1).f3))) (fun _ hk => trivial))); (case aS => exact (below_size (by repeat (first | (with_reducible first | exact HB.out | apply below_alloc | apply pw_below_drewN | apply below_drew1 | refine below_set ?_ GE283.out) | exact HB.out)))); (case aL => have := LMc7.out; omega); intro v285 w10 ho hb hg hat; rw [← Ny284.out] at ho; have n0_ := Aside0.mk (blk_grown (g := gb283) (o := .cells #[.int .u8 ((rd_T76 l0 x9_1).f0), .int .u8 ((rd_T76 l0 x9_1).f1), .int .u8 ((rd_T76 l0 x9_1).f2), .int .u8 ((rd_T76 l0 x9_1).f3)] 76 (0, 0)) (by (with_reducible repeat (first | refine blk_drewN ?_ _ | refine blk_drew ?_ | refine blk_alloc ?_ _)); refine blk_put (cs := #[.int .u8 ((rd_T76 l0 x9_1).f0), .int .u8 ((rd_T76 l0 x9_1).f1), .int .u8 ((rd_T76 l0 x9_1).f2), .int .u8 0]) ?_ 3 _ rfl; (with_reducible repeat (first | refine blk_drewN ?_ _ | refine blk_drew ?_ | refine blk_alloc ?_ _)); refine blk_put (cs := #[.int .u8 ((rd_T76 l0 x9_1).f0), .int .u8 ((rd_T76 l0 x9_1).f1), .int .u8 0, .int .u8 0]) ?_ 2 _ rfl; (with_reducible repeat (first | refine blk_drewN ?_ _ | refine blk_drew ?_ | refine blk_alloc ?_ _)); refine blk_put (cs := #[.int .u8 ((rd_T76 l0 x9_1).f0), .int .u8 0, .int .u8 0, .int .u8 0]) ?_ 1 _ rfl; (with_reducible repeat (first | refine blk_drewN ?_ _ | refine blk_drew ?_ | refine blk_alloc ?_ _)); refine blk_put (cs := #[.int .u8 0, .int .u8 0, .int .u8 0, .int .u8 0]) ?_ 0 _ rfl; (with_reducible repeat (first | refine blk_drewN ?_ _ | refine blk_drew ?_ | refine blk_alloc ?_ _)); exact BK283.out) hg (Kd.R_ne HO_3.out BK283.out (by decide))); have n1_ := Aside0.mk (hb); have n2_ := Aside0.mk (ho); clear BK283; clear HB; clear HO_3; have BK283 := n0_; have HB := n1_; have HO286 := n2_; clear n0_ n1_ n2_; clear ho hb hg hat))
              go_roundg k1
              case measure => have := HK1.out; omega
              case rel => exact ⟨(y284), (wrap64 (x9_1 + 1)), (by first | rfl | (simp; done) | (simp [*]; done)), H', ⟨by have := HK1.out; omega⟩, ⟨by (with_reducible repeat (first | apply Kd.R_alloc | apply Kd.R_drewN | apply Kd.R_drew)); exact HO286.out⟩, ⟨by repeat (first | (with_reducible first | exact HB.out | apply below_alloc | apply pw_below_drewN | apply below_drew1 | refine below_set ?_ GE283.out) | exact HB.out)⟩⟩
            · rw [if_neg c7] at H
              exact absurd H (by simp)
          · rw [if_neg c6] at H
            exact absurd H (by simp)
        · rw [if_neg c5] at H
          exact absurd H (by simp)
      · rw [if_neg c4] at H
        have c4b0 : decide (x9_1 < (l0.length : Int)) = false := decide_eq_false c4
        clear c4
        obtain rfl := Option.some.inj H
        go_wp2
        go_ret
        exact ⟨_, by first | rfl | (simp [errW_none, errW_some] <;> rfl) | (simp [*, errW_none, errW_some] <;> rfl), by (with_reducible repeat (first | apply Kd.R_alloc | apply Kd.R_drewN | apply Kd.R_drew)); exact HO_3.out, by repeat (first | (with_reducible first | exact HB.out | apply below_alloc | apply pw_below_drewN | apply below_drew1) | exact HB.out)⟩

-- NOT PRINTED: function 4 (laws_FnConfig)

end Go.Proofs.YtnodmobblamlgaaDoor.PFnConfig
