/- A slice literal of two and of four entries, as laws of the walk (the kernel does not come back over the walk's own way). -/
import Derived.Test.YtnodmobblamlgaaDoorEWriteH
import Derived.Great.BuildSlice
namespace Go.Proofs.YtnodmobblamlgaaDoor
open Go.RowKit

theorem fill_step (cells : Array Value) (k : Nat) (a b c : Value) (rest : List (Nat × Value)) (h : k * 3 + 3 ≤ cells.size) :
    Instr.fill (fun i => some (i * 3, 3)) cells ((k, .agg #[a, b, c]) :: rest) = Instr.fill (fun i => some (i * 3, 3)) (((cells.setIfInBounds (k * 3 + 0) a).setIfInBounds (k * 3 + 1) b).setIfInBounds (k * 3 + 2) c) rest := by
  have h1 : ¬ ((decide ((Value.agg #[a, b, c]).cells.size ≠ 3) || decide (k * 3 + (Value.agg #[a, b, c]).cells.size > cells.size)) = true) := by
    simp only [Value.cells, List.size_toArray, List.length_cons, List.length_nil, Bool.or_eq_true, decide_eq_true_eq]
    omega
  simp only [Instr.fill]
  rw [if_neg h1]
  rfl
theorem fill_two (z0 z1 z2 a b c d e f : Value) :
    Instr.fill (fun i => some (i * 3, 3)) #[z0, z1, z2, z0, z1, z2] [(0, .agg #[a, b, c]), (1, .agg #[d, e, f])] = some #[a, b, c, d, e, f] := by
  rw [fill_step _ _ _ _ _ _ (by simp), fill_step _ _ _ _ _ _ (by simp), Instr.fill]
  simp
theorem fill_four (z0 z1 z2 a b c d e f g h i j k l : Value) :
    Instr.fill (fun i => some (i * 3, 3)) #[z0, z1, z2, z0, z1, z2, z0, z1, z2, z0, z1, z2] [(0, .agg #[a, b, c]), (1, .agg #[d, e, f]), (2, .agg #[g, h, i]), (3, .agg #[j, k, l])] = some #[a, b, c, d, e, f, g, h, i, j, k, l] := by
  rw [fill_step _ _ _ _ _ _ (by simp), fill_step _ _ _ _ _ _ (by simp), fill_step _ _ _ _ _ _ (by simp), fill_step _ _ _ _ _ _ (by simp), Instr.fill]
  simp
theorem zeros_two (z0 z1 z2 : Value) : ((Array.range (2 * 3)).map (#[z0, z1, z2][· % (#[z0, z1, z2] : Array Value).size]!)) = #[z0, z1, z2, z0, z1, z2] := by
  rw [show Array.range (2 * 3) = #[0, 1, 2, 3, 4, 5] from rfl]
  simp
theorem zeros_four (z0 z1 z2 : Value) : ((Array.range (4 * 3)).map (#[z0, z1, z2][· % (#[z0, z1, z2] : Array Value).size]!)) = #[z0, z1, z2, z0, z1, z2, z0, z1, z2, z0, z1, z2] := by
  rw [show Array.range (4 * 3) = #[0, 1, 2, 3, 4, 5, 6, 7, 8, 9, 10, 11] from rfl]
  simp
theorem i52_ex : ∃ ie, Tryd.prog.info? 52 = some ie ∧ ie.zero = some (.agg #[.int .i64 0, .int .i64 0, .slice none 0 0]) ∧ ie.size = 3 := by
  have h := i52
  cases hi : Tryd.prog.info? 52 with
  | none => rw [hi] at h; cases h
  | some ie =>
    rw [hi] at h
    simp only [Option.map_some, Option.some.injEq, Prod.mk.injEq] at h
    exact ⟨ie, rfl, h.1, h.2.1⟩

theorem wpList_entries2 {ops : Array Oper} {rest : List Oper} {o : Oper} {A : Act} {w : World} {Q : Exit → Act → World → Prop} (hg : o.guard = none) (x y dd : Tmp) (N : Nat) (hN : w.heap.size = N) (ho : o.op = .buildSlice 53 2 #[(0, .tmp x), (1, .tmp y)]) (hd : o.dst = some dd) (a b c d e f : Value)
    (hx : A.eval (.tmp x) = .agg #[a, b, c]) (hy : A.eval (.tmp y) = .agg #[d, e, f])
    (h : wpList Tryd.prog ops Q rest (A.put (some dd) (.slice (some ⟨N, 0, none⟩) 2 2)) (w.alloc (.cells #[a, b, c, d, e, f] 52))) : wpList Tryd.prog ops Q (o :: rest) A w := by
  obtain ⟨ie, hi, hz, hs⟩ := i52_ex
  subst hN
  refine wpList_buildSlice hg 53 52 2 _ ho _ ie _ Tryd.underlying53 hi hz (by rw [hs]; decide) (by rw [hs]; decide) ?_ (by rw [hd]; exact h)
  rw [hs]
  simp only [List.map_toArray, List.map_cons, List.map_nil, hx, hy]
  exact (congrArg (fun t => Instr.fill (fun i => some (i * 3, 3)) t _) (zeros_two _ _ _)).trans (fill_two _ _ _ _ _ _ _ _ _)
theorem wpList_entries4 {ops : Array Oper} {rest : List Oper} {o : Oper} {A : Act} {w : World} {Q : Exit → Act → World → Prop} (hg : o.guard = none) (x y z u dd : Tmp) (N : Nat) (hN : w.heap.size = N) (ho : o.op = .buildSlice 53 4 #[(0, .tmp x), (1, .tmp y), (2, .tmp z), (3, .tmp u)]) (hd : o.dst = some dd) (a b c d e f g h i j k l : Value)
    (hx : A.eval (.tmp x) = .agg #[a, b, c]) (hy : A.eval (.tmp y) = .agg #[d, e, f]) (hz' : A.eval (.tmp z) = .agg #[g, h, i]) (hu : A.eval (.tmp u) = .agg #[j, k, l])
    (H : wpList Tryd.prog ops Q rest (A.put (some dd) (.slice (some ⟨N, 0, none⟩) 4 4)) (w.alloc (.cells #[a, b, c, d, e, f, g, h, i, j, k, l] 52))) : wpList Tryd.prog ops Q (o :: rest) A w := by
  obtain ⟨ie, hi, hz, hs⟩ := i52_ex
  subst hN
  refine wpList_buildSlice hg 53 52 4 _ ho _ ie _ Tryd.underlying53 hi hz (by rw [hs]; decide) (by rw [hs]; decide) ?_ (by rw [hd]; exact H)
  rw [hs]
  simp only [List.map_toArray, List.map_cons, List.map_nil, hx, hy, hz', hu]
  exact (congrArg (fun t => Instr.fill (fun i => some (i * 3, 3)) t _) (zeros_four _ _ _)).trans (fill_four _ _ _ _ _ _ _ _ _ _ _ _ _ _ _)
end Go.Proofs.YtnodmobblamlgaaDoor
