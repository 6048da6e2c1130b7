/- PackBits as a function of lists: what both readers of it come to. Plain Lean, no program. -/
import Derived.Test.YtloflgkidclhoaaDoorWMore
namespace Go.Proofs.YtloflgkidclhoaaDoor
open Go.Proofs.YtloflgkidclhoaaDoorW.PrintWords
set_option linter.unusedVariables false
set_option linter.unusedSimpArgs false

/-- What bytes of PackBits tell; none where bytes are missing. -/
def unp (xs : List Int) : Option (List Int) :=
  match xs with
  | [] => some []
  | b :: r =>
    if b < 128 then
      if b.toNat + 1 ≤ r.length then (unp (r.drop (b.toNat + 1))).map (r.take (b.toNat + 1) ++ ·) else none
    else if b = 128 then unp r
    else match r with
      | [] => none
      | c :: r' => (unp r').map (List.replicate (257 - b).toNat c ++ ·)
termination_by xs.length
decreasing_by all_goals (simp; try omega)

theorem unp_nil : unp [] = some [] := by rw [unp.eq_def]
theorem unp_cons (b : Int) (r : List Int) : unp (b :: r) = if b < 128 then (if b.toNat + 1 ≤ r.length then (unp (r.drop (b.toNat + 1))).map (r.take (b.toNat + 1) ++ ·) else none) else if b = 128 then unp r else (match r with
      | [] => none
      | c :: r' => (unp r').map (List.replicate (257 - b).toNat c ++ ·)) := by rw [unp.eq_def]

theorem drop_at (xs : List Int) (i : Nat) (h : i < xs.length) : xs.drop i = rd xs i :: xs.drop (i + 1) := by
  rw [List.drop_eq_getElem_cons h]
  congr 1
  simp [rd, List.getD_eq_getElem?_getD, List.getElem?_eq_getElem h]

theorem unp_end (xs : List Int) (i : Nat) (h : xs.length ≤ i) : unp (xs.drop i) = some [] := by
  rw [List.drop_eq_nil_of_le h, unp_nil]
theorem unp_lit (xs : List Int) (i n : Nat) (h : i < xs.length) (hb : rd xs i < 128) (hn : (n : Int) = rd xs i) (hle : i + n + 2 ≤ xs.length) :
    unp (xs.drop i) = (unp (xs.drop (i + 1 + (n + 1)))).map ((xs.drop (i + 1)).take (n + 1) ++ ·) := by
  have hn' : (rd xs i).toNat = n := by omega
  rw [drop_at xs i h, unp_cons, if_pos hb, if_pos (by rw [List.length_drop]; omega), hn', List.drop_drop]
theorem unp_litBad (xs : List Int) (i n : Nat) (h : i < xs.length) (hb : rd xs i < 128) (hn : (n : Int) = rd xs i) (hle : xs.length < i + n + 2) : unp (xs.drop i) = none := by
  have hn' : (rd xs i).toNat = n := by omega
  rw [drop_at xs i h, unp_cons, if_pos hb, if_neg (by rw [List.length_drop]; omega)]
theorem unp_nop (xs : List Int) (i : Nat) (h : i < xs.length) (hb : rd xs i = 128) : unp (xs.drop i) = unp (xs.drop (i + 1)) := by
  rw [drop_at xs i h, unp_cons, if_neg (by omega), if_pos hb]
theorem unp_run (xs : List Int) (i n : Nat) (h : i + 1 < xs.length) (hb : 128 < rd xs i) (hn : (n : Int) = 257 - rd xs i) :
    unp (xs.drop i) = (unp (xs.drop (i + 1 + 1))).map (List.replicate n (rd xs (i + 1 : Nat)) ++ ·) := by
  have hn' : (257 - rd xs i).toNat = n := by omega
  rw [drop_at xs i (by omega), unp_cons, if_neg (by omega), if_neg (by omega), drop_at xs (i + 1) h, hn']
theorem unp_runBad (xs : List Int) (i : Nat) (h : i + 1 = xs.length) (hb : 128 < rd xs i) : unp (xs.drop i) = none := by
  rw [drop_at xs i (by omega), unp_cons, if_neg (by omega), if_neg (by omega), List.drop_eq_nil_of_le (by omega)]

theorem map_append {o : Option (List Int)} {D E : List Int} : (o.map (E ++ ·)).map (D ++ ·) = o.map ((D ++ E) ++ ·) := by
  cases o <;> simp

/-- No byte tells more than 128. -/
theorem unp_le (m : Nat) : ∀ (xs D : List Int), xs.length ≤ m → (∀ x ∈ xs, 0 ≤ x ∧ x ≤ 255) → unp xs = some D → D.length ≤ 128 * xs.length := by
  induction m with
  | zero =>
    intro xs D hm _ h
    obtain rfl : xs = [] := List.eq_nil_of_length_eq_zero (by omega)
    rw [unp_nil] at h
    obtain rfl := Option.some.inj h
    simp
  | succ m ih =>
    intro xs D hm hw h
    cases xs with
    | nil =>
      rw [unp_nil] at h
      obtain rfl := Option.some.inj h
      simp
    | cons b r =>
      have hb := hw b (by simp)
      have hwr : ∀ x ∈ r, 0 ≤ x ∧ x ≤ 255 := fun x hx => hw x (by simp [hx])
      simp only [List.length_cons] at hm ⊢
      rw [unp_cons] at h
      by_cases h1 : b < 128
      · rw [if_pos h1] at h
        by_cases h2 : b.toNat + 1 ≤ r.length
        · rw [if_pos h2, Option.map_eq_some_iff] at h
          obtain ⟨D', hD', rfl⟩ := h
          have := ih _ D' (by rw [List.length_drop]; omega) (fun x hx => hwr x (List.mem_of_mem_drop hx)) hD'
          rw [List.length_drop] at this
          rw [List.length_append, List.length_take]
          omega
        · rw [if_neg h2] at h; cases h
      · rw [if_neg h1] at h
        by_cases h2 : b = 128
        · rw [if_pos h2] at h
          have := ih _ D (by omega) hwr h
          omega
        · rw [if_neg h2] at h
          cases r with
          | nil => cases h
          | cons c r' =>
            simp only [List.length_cons] at hm
            obtain ⟨D', hD', rfl⟩ := Option.map_eq_some_iff.1 h
            have := ih _ D' (by omega) (fun x hx => hwr x (by simp [hx])) hD'
            simp only [List.length_append, List.length_replicate, List.length_cons]
            omega
end Go.Proofs.YtloflgkidclhoaaDoor
