/- spec.Run ends, and how long what it makes is at most. Plain Lean over the printed function, no program. -/
import Derived.Test.YtnodmobblamlgaaDoorEPFnConfigx5
namespace Go.Proofs.YtnodmobblamlgaaDoor
open Go.RowKit Go.Proofs.YtnodmobblamlgaaDoorW.PrintWords Go.Proofs.YtnodmobblamlgaaDoorW.PrintLast Go.Proofs.YtnodmobblamlgaaDoorW.PrintMore Go.Proofs.YtnodmobblamlgaaDoor.PFnConfig
set_option linter.unusedVariables false
set_option linter.unusedSimpArgs false

/-- What has been written for the first i bytes: its length alone. -/
structure Wr (xs : List Int) (out : List Int) (i : Nat) : Prop where
  le : i ≤ xs.length
  short : out.length ≤ 3 * i
theorem w64 {x : Int} (h0 : -1000000000 ≤ x) (h1 : x ≤ 1000000000) : wrap64 x = x := by unfold wrap64; omega
theorem Wr.next_lit {xs out pre : List Int} {i m : Nat} (h : Wr xs out i) (hp : pre = out ∨ pre = out ++ [128]) (hw : True) (hm : 1 ≤ m) (hm2 : m ≤ 128) (hle : i + m ≤ xs.length) :
    Wr xs (pre ++ [(m : Int) - 1] ++ (xs.take (i + m)).drop i) (i + m) := by
  have := h.short
  refine ⟨hle, ?_⟩
  have l1 : ((xs.take (i + m)).drop i).length = m := by rw [List.length_drop, List.length_take]; omega
  rcases hp with rfl | rfl <;> simp only [List.length_append, l1, List.length_cons, List.length_nil] <;> omega
theorem Wr.next_run {xs out pre : List Int} {i n : Nat} (h : Wr xs out i) (hp : pre = out ∨ pre = out ++ [128]) (hw : True) (hn : 2 ≤ n) (hn2 : n ≤ 128) (hle : i + n ≤ xs.length) (heq : ∀ j, j < n → rd xs ((i + j : Nat) : Int) = rd xs i) :
    Wr xs (pre ++ [257 - (n : Int), rd xs i]) (i + n) := by
  have := h.short
  refine ⟨hle, ?_⟩
  rcases hp with rfl | rfl <;> simp only [List.length_append, List.length_cons, List.length_nil] <;> omega

set_option maxHeartbeats 1000000 in
theorem j2_step (k : Nat) (xs : List Int) (most : Nat) (a2 : Int) (out : List Int) (i n : Nat) (h : Wr xs out i) (hi : i < xs.length) (hn : 1 ≤ n) (hn2 : n ≤ 128) (hin : i + n ≤ xs.length)
    (heq : ∀ j, j < n → rd xs ((i + j : Nat) : Int) = rd xs i) (hm : 1 ≤ most) (hm2 : most ≤ 128) (hl : xs.length ≤ 2000000) (hw : True) :
    ∃ out' i', spec_Run.j2 (k + 1) xs most a2 out i n = spec_Run.l0 k xs most a2 out' (i' : Nat) ∧ Wr xs out' i' ∧ i < i' := by
  have hs := h.short
  have e1 : Aside0 (wrap64 ((xs.length : Int) - (i : Int)) = ((xs.length - i : Nat) : Int)) := ⟨by rw [w64 (x := (xs.length : Int) - (i : Int)) (by omega) (by omega)]; omega⟩
  obtain ⟨m, hmm⟩ : ∃ m, m = min most (xs.length - i) := ⟨_, rfl⟩
  have e2 : Aside0 (mn (most : Int) ((xs.length - i : Nat) : Int) = (m : Int)) := ⟨by unfold mn; split <;> omega⟩
  have m1 : 1 ≤ m := by omega
  have m2 : m ≤ 128 := by omega
  have m3 : i + m ≤ xs.length := by omega
  have e3 : Aside0 (wrap64 ((i : Int) + (m : Int)) = ((i + m : Nat) : Int)) := ⟨by rw [w64 (x := (i : Int) + (m : Int)) (by omega) (by omega)]; omega⟩
  have e4 : Aside0 (wrap64 ((m : Int) - 1) % 256 = (m : Int) - 1) := ⟨by rw [w64 (x := (m : Int) - 1) (by omega) (by omega)]; omega⟩
  have e5 : Aside0 (wrap64 (257 - (n : Int)) % 256 = if n = 1 then 0 else 257 - (n : Int)) := ⟨by rw [w64 (x := 257 - (n : Int)) (by omega) (by omega)]; split <;> omega⟩
  have e6 : Aside0 (wrap64 ((i : Int) + (n : Int)) = ((i + n : Nat) : Int)) := ⟨by rw [w64 (x := (i : Int) + (n : Int)) (by omega) (by omega)]; omega⟩
  have l1 : ((xs.take (i + m)).drop i).length = m := by rw [List.length_drop, List.length_take]; omega
  have lit : ∀ pre : List Int, (pre = out ∨ pre = out ++ [128]) → ∃ out' i', (if pre.length < 140737488355328 then ((some (pre ++ [(m : Int) - 1] : List Int)).bind fun y => (if 0 ≤ (i : Int) then (if (i : Int) ≤ ((i + m : Nat) : Int) then (if ((i + m : Nat) : Int) ≤ (xs.length : Int) then (if y.length + ((xs.take (((i + m : Nat) : Int)).toNat).drop (i : Int).toNat).length < 140737488355328 then (spec_Run.l0 k xs most a2 (y ++ ((xs.take (((i + m : Nat) : Int)).toNat).drop (i : Int).toNat)) ((i + m : Nat) : Int)) else none) else none) else none) else none)) else none) = spec_Run.l0 k xs most a2 out' (i' : Nat) ∧ Wr xs out' i' ∧ i < i' := by
    intro pre hp
    have hpl : pre.length ≤ out.length + 1 := by rcases hp with rfl | rfl <;> simp
    refine ⟨pre ++ [(m : Int) - 1] ++ (xs.take (i + m)).drop i, i + m, ?_, h.next_lit hp hw m1 m2 m3, by omega⟩
    rw [if_pos (by omega)]
    simp only [Option.bind_some, Int.toNat_natCast]
    rw [if_pos (by omega), if_pos (by omega), if_pos (by omega), if_pos (by rw [l1]; simp; omega)]
  have run : ∀ pre : List Int, (pre = out ∨ pre = out ++ [128]) → 1 < (n : Int) → ∃ out' i', (if 0 ≤ (i : Int) then (if (i : Int) < (xs.length : Int) then ((some (([wrap64 (257 - (n : Int)) % 256, rd xs i] : List Int) : List Int)).bind fun y => (if pre.length + y.length < 140737488355328 then (spec_Run.l0 k xs most a2 (pre ++ y) ((i + n : Nat) : Int)) else none)) else none) else none) = spec_Run.l0 k xs most a2 out' (i' : Nat) ∧ Wr xs out' i' ∧ i < i' := by
    intro pre hp hn1
    have hpl : pre.length ≤ out.length + 1 := by rcases hp with rfl | rfl <;> simp
    refine ⟨pre ++ [257 - (n : Int), rd xs i], i + n, ?_, h.next_run hp hw (by omega) hn2 hin heq, by omega⟩
    rw [if_pos (by omega), if_pos (by omega), e5.out, if_neg (by omega)]
    simp only [Option.bind_some]
    rw [if_pos (by simp; omega)]
  rw [spec_Run.j2]
  simp only [e1.out, e2.out, e3.out, e4.out, e6.out]
  by_cases b2 : Go.bits .and .i64 a2 2 = 0
  · rw [if_pos b2]
    by_cases hn1 : (n : Int) > 1
    · rw [if_pos hn1]
      by_cases b1 : Go.bits .and .i64 a2 1 = 0
      · rw [if_pos b1]; exact lit out (.inl rfl)
      · rw [if_neg b1]; exact run out (.inl rfl) hn1
    · rw [if_neg hn1]; exact lit out (.inl rfl)
  · rw [if_neg b2, if_pos (by omega)]
    simp only [Option.bind_some]
    by_cases hn1 : (n : Int) > 1
    · rw [if_pos hn1]
      by_cases b1 : Go.bits .and .i64 a2 1 = 0
      · rw [if_pos b1]; exact lit (out ++ [128]) (.inr rfl)
      · rw [if_neg b1]; exact run (out ++ [128]) (.inr rfl) hn1
    · rw [if_neg hn1]; exact lit (out ++ [128]) (.inr rfl)

/-- From i on, with enough rounds. -/
theorem run_from (d : Nat) : ∀ (xs : List Int) (most : Nat) (a2 : Int) (out : List Int) (i : Nat), Wr xs out i → 1 ≤ most → most ≤ 128 → xs.length ≤ 2000000 → True → xs.length - i ≤ d →
    ∀ k, 131 * d + 1 ≤ k → ∃ r, spec_Run.l0 k xs most a2 out i = some r ∧ Wr xs r xs.length := by
  induction d with
  | zero =>
    intro xs most a2 out i h hm hm2 hl hw hd k hk
    obtain ⟨k, rfl⟩ : ∃ j, k = j + 1 := ⟨k - 1, by omega⟩
    refine ⟨out, ?_, ?_⟩
    · rw [spec_Run.l0, if_neg (by omega)]
    · have : i = xs.length := by have := h.le; omega
      rw [this] at h; exact h
  | succ d ih =>
    intro xs most a2 out i h hm hm2 hl hw hd k hk
    obtain ⟨k, rfl⟩ : ∃ j, k = j + 1 := ⟨k - 1, by omega⟩
    rcases Nat.lt_or_ge i xs.length with hi | hi
    · simp only [spec_Run.l0]
      rw [if_pos (by omega)]
      have inner : ∀ (e n : Nat), 1 ≤ n → n ≤ 128 → i + n ≤ xs.length → (∀ j, j < n → rd xs ((i + j : Nat) : Int) = rd xs i) → 128 - n ≤ e → ∀ k, 131 * d + 2 + e + 1 ≤ k → ∃ r, spec_Run.l1 k xs most a2 out i n = some r ∧ Wr xs r xs.length := by
        intro e
        induction e with
        | zero =>
          intro n hn hn2 hin heq he k hk
          obtain ⟨k, rfl⟩ : ∃ j, k = j + 1 := ⟨k - 1, by omega⟩
          obtain ⟨k, rfl⟩ : ∃ j, k = j + 1 := ⟨k - 1, by omega⟩
          have e6 : Aside0 (wrap64 ((i : Int) + (n : Int)) = ((i + n : Nat) : Int)) := ⟨by rw [w64 (x := (i : Int) + (n : Int)) (by omega) (by omega)]; omega⟩
          have fin : ∃ r, spec_Run.j2 (k + 1) xs most a2 out i n = some r ∧ Wr xs r xs.length := by
            obtain ⟨out', i', hj, hw', hlt⟩ := j2_step k xs most a2 out i n h hi hn hn2 hin heq hm hm2 hl hw
            rw [hj]
            exact ih xs most a2 out' i' hw' hm hm2 hl hw (by omega) k (by omega)
          rw [spec_Run.l1]
          simp only [e6.out]
          by_cases c : ((i + n : Nat) : Int) < (xs.length : Int)
          · rw [if_pos c, if_pos (by omega), if_pos (by omega), if_pos (by omega)]
            by_cases c2 : rd xs ((i + n : Nat) : Int) = rd xs (i : Int)
            · rw [if_pos c2, if_neg (by omega)]; exact fin
            · rw [if_neg c2]; exact fin
          · rw [if_neg c]; exact fin
        | succ e ihe =>
          intro n hn hn2 hin heq he k hk
          obtain ⟨k, rfl⟩ : ∃ j, k = j + 1 := ⟨k - 1, by omega⟩
          obtain ⟨k, rfl⟩ : ∃ j, k = j + 1 := ⟨k - 1, by omega⟩
          have e6 : Aside0 (wrap64 ((i : Int) + (n : Int)) = ((i + n : Nat) : Int)) := ⟨by rw [w64 (x := (i : Int) + (n : Int)) (by omega) (by omega)]; omega⟩
          have e7 : Aside0 (wrap64 ((n : Int) + 1) = ((n + 1 : Nat) : Int)) := ⟨by rw [w64 (x := (n : Int) + 1) (by omega) (by omega)]; omega⟩
          have fin : ∃ r, spec_Run.j2 (k + 1) xs most a2 out i n = some r ∧ Wr xs r xs.length := by
            obtain ⟨out', i', hj, hw', hlt⟩ := j2_step k xs most a2 out i n h hi hn hn2 hin heq hm hm2 hl hw
            rw [hj]
            exact ih xs most a2 out' i' hw' hm hm2 hl hw (by omega) k (by omega)
          rw [spec_Run.l1]
          simp only [e6.out, e7.out]
          by_cases c : ((i + n : Nat) : Int) < (xs.length : Int)
          · rw [if_pos c, if_pos (by omega), if_pos (by omega), if_pos (by omega)]
            by_cases c2 : rd xs ((i + n : Nat) : Int) = rd xs (i : Int)
            · rw [if_pos c2]
              by_cases c3 : (n : Int) < 128
              · rw [if_pos c3]
                refine ihe (n + 1) (by omega) (by omega) (by omega) (fun j hj => ?_) (by omega) (k + 1) (by omega)
                rcases Nat.lt_or_ge j n with h' | h'
                · exact heq j h'
                · obtain rfl : j = n := by omega
                  exact c2
              · rw [if_neg c3]; exact fin
            · rw [if_neg c2]; exact fin
          · rw [if_neg c]; exact fin
      exact inner 127 1 (by omega) (by omega) (by omega) (fun j hj => by rw [show j = 0 from by omega, Nat.add_zero]) (by omega) k (by omega)
    · refine ⟨out, ?_, ?_⟩
      · rw [spec_Run.l0, if_neg (by omega)]
      · have : i = xs.length := by have := h.le; omega
        rw [this] at h; exact h

/-- spec.Run ends; how long it is at most. -/
theorem run_all (xs : List Int) (most : Nat) (a2 : Int) (hm : 1 ≤ most) (hm2 : most ≤ 128) (hl : xs.length ≤ 2000000) :
    ∃ k r, spec_Run.f k xs most a2 = some r ∧ r.length ≤ 3 * xs.length := by
  obtain ⟨r, hr, h⟩ := run_from xs.length xs most a2 [] 0 ⟨Nat.zero_le _, by simp⟩ hm hm2 hl trivial (by omega) (131 * xs.length + 1) (by omega)
  exact ⟨_, r, hr, h.short⟩
end Go.Proofs.YtnodmobblamlgaaDoor
