/- A map keyed by int, by the very values that it holds; look-up and store at the operation. -/
import Derived.Test.YtnodmobblamlgaaDoorEBase
import Derived.Test.YtnodmobblamlgaaDoorProg
import Derived.Maps.OwnSet
import Derived.Maps.RangeWalk
namespace Go.Proofs.YtnodmobblamlgaaDoor
open Go.RowKit Go.Maps Go.Proofs.YtnodmobblamlgaaDoorW.PrintWords Go.Proofs.YtnodmobblamlgaaDoorW.PrintLast Go.Proofs.YtnodmobblamlgaaDoorW.PrintMore
set_option linter.unusedVariables false
set_option linter.unusedSimpArgs false

/-- An element as the value that it is. -/
def raw (v : Value) : Option (DataW Value × List MemPlace) := some (.held v, [])
theorem law3 : Keyed Tryd.prog 3 := int_keyed Tryd.underlying3
/-- A key of the kind int. -/
def K64 (k : Int) : Prop := (Lit.int .i64 k).wf = true
theorem K64.mk {k : Int} (h0 : -9223372036854775808 ≤ k) (h1 : k ≤ 9223372036854775807) : K64 k := WalkArith.wf_i64 ⟨h0, h1⟩
theorem keyOf64 {k : Int} (h : K64 k) : keyOf Tryd.prog 3 (.int .i64 k) = some (.int .i64 k) := keyOf_int_mk Tryd.underlying3 h

/-- Block b is a map of at most n entries: at each key what f says. -/
def IMap (w : World) (b n : Nat) (f : Int → Option Value) : Prop :=
  ∃ D : DataW Value, w.ownsMap Tryd.prog 3 raw b n D ∧ IsMap D ∧ ∀ k, K64 k → Maps.has D (.int .i64 k) = (f k).isSome ∧ ∀ v, f k = some v → ∀ z, D.atKey (.int .i64 k) z = .held v
namespace IMap
variable {w w1 : World} {b n : Nat} {f : Int → Option Value}
theorem made (w : World) : IMap (w.alloc (.map #[] 0)) w.heap.size 0 (fun _ => none) :=
  ⟨_, World.ownsMap_made w Tryd.prog 3 raw, isMap_empty, fun k hk => ⟨rfl, fun v hv => by cases hv⟩⟩
theorem lt (h : IMap w b n f) : b < w.heap.size := by obtain ⟨D, h, _⟩ := h; exact h.lt
theorem kept (h : IMap w b n f) {row : Option Nat} (hg : w.grownBy w1 row) (hne : some b ≠ row) : IMap w1 b n f := by
  obtain ⟨D, h, r⟩ := h
  exact ⟨D, h.kept hg hne, r⟩
theorem below (h : IMap w b n f) (hb : Below w.heap.size w w1) : IMap w1 b n f := h.kept (grown_of_below hb none) (by simp)
theorem alloc (h : IMap w b n f) (o : Obj) : IMap (w.alloc o) b n f := h.below (below_alloc (Below.refl _ _) o)
theorem drewN (h : IMap w b n f) (m : Nat) : IMap (w.drewN m) b n f := h.below (pw_below_drewN (Below.refl _ _) m)
theorem drew (h : IMap w b n f) : IMap w.drew b n f := h.below (below_drew (Below.refl _ _))
theorem mono (h : IMap w b n f) {n' : Nat} (hn : n ≤ n') : IMap w b n' f := by
  obtain ⟨D, h, r⟩ := h
  exact ⟨D, h.mono hn, r⟩
theorem blk (h : IMap w b n f) : ∃ es c, w.heap[b]? = some (.map es c) := by obtain ⟨D, ⟨es, c, hb, _⟩, _⟩ := h; exact ⟨es, c, hb⟩
/-- m[k]. -/
theorem look (h : IMap w b n f) {t e : TypeId} (ht : Tryd.prog.underlying t = some (.map 3 e)) {z : Value} (hz : (zeroValue e).run Tryd.prog w = .ok z w) {k : Int} (hk : K64 k) :
    (Instr.lookup t (.map (some b)) (.int .i64 k) false).run Tryd.prog w = .ok ((f k).getD z) w := by
  obtain ⟨D, h, hD, hf⟩ := h
  obtain ⟨v, ps, hrun, hv⟩ := h.lookup law3 ht hz (R := raw) (zd := .held z) (zp := []) rfl (keyOf64 hk)
  have key : v = (f k).getD z → (Instr.lookup t (.map (some b)) (.int .i64 k) false).run Tryd.prog w = .ok ((f k).getD z) w := fun e => by rw [← e]; exact hrun
  apply key
  clear key hrun
  have hv' : DataW.held v = D.atKey (.int .i64 k) (.held z) := by
    have := Option.some.inj hv
    exact (Prod.mk.injEq _ _ _ _ ▸ this).1
  obtain ⟨h1, h2⟩ := hf k hk
  cases hfk : f k with
  | none =>
    rw [hfk] at h1
    rw [atKey_of_not_has (by simpa using h1)] at hv'
    injection hv'
  | some u =>
    rw [h2 u hfk] at hv'
    injection hv'
/-- m[k] = v. -/
theorem upd (h : IMap w b n f) {t e : TypeId} (ht : Tryd.prog.underlying t = some (.map 3 e)) (hn : n < maxLen) {k : Int} (hk : K64 k) (v : Value) :
    ∃ w1, (Instr.mapUpdate t (.map (some b)) (.int .i64 k) v).run Tryd.prog w = .ok () w1 ∧ IMap w1 b (n + 1) (fun j => if j = k then some v else f j) ∧ w.grownBy w1 (some b) := by
  obtain ⟨D, h, hD, hf⟩ := h
  obtain ⟨w1, hrun, h1, hg⟩ := h.update law3 ht hn (keyOf64 hk) (val := v) (d := .held v) (ps := []) rfl
  have hkl : WideAt.IsKeyLit (.int .i64 k) := trivial
  refine ⟨w1, hrun, ⟨_, h1, hD.put _ _, fun j hj => ?_⟩, hg⟩
  by_cases hjk : j = k
  · subst hjk
    refine ⟨by rw [has_put_same hD hkl]; simp, fun u hu z => ?_⟩
    simp only [if_true, Option.some.injEq] at hu
    rw [atKey_put_same hD hkl, hu]
  · have hne : (Lit.int .i64 j) ≠ .int .i64 k := by intro h; injection h with _ h; exact hjk h
    obtain ⟨a1, a2⟩ := hf j hj
    refine ⟨by rw [has_put_other hne, a1]; simp [hjk], fun u hu z => ?_⟩
    simp only [hjk, if_false] at hu
    rw [atKey_put_other hne, a2 u hu]
end IMap
theorem Turn.imap {S : Nat → Prop} {W W1 : World} {b n : Nat} {f : Int → Option Value} (h : Turn S W W1) (hm : IMap W b n f) (hb : ¬ S b) : IMap W1 b n f := by
  obtain ⟨D, ⟨es, clock, hbl, F, hs, hD⟩, r⟩ := hm
  exact ⟨D, ⟨es, clock, h.blk hbl hb, F, hs, hD⟩, r⟩

section
variable {ops : Array Oper} {rest : List Oper} {o : Oper} {a : Act} {Q : Exit → Act → World → Prop}
theorem wpList_upd {w : World} (hg : o.guard = none) (m x v : Operand) (t : TypeId) (hop : o.op = Op.mapUpdate t m x v) {e : TypeId} (ht : Tryd.prog.underlying t = some (.map 3 e)) {b n : Nat} {f : Int → Option Value}
    (hm : a.eval m = .map (some b)) (h : IMap w b n f) (hn : n < maxLen) {k : Int} (hx : a.eval x = .int .i64 k) (hk : K64 k) (u : Value) (hv : a.eval v = u)
    (hK : ∀ w1, IMap w1 b (n + 1) (fun j => if j = k then some u else f j) → w.grownBy w1 (some b) → wpList Tryd.prog ops Q rest (a.put o.dst undef) w1) : wpList Tryd.prog ops Q (o :: rest) a w := by
  refine wpList_plain hg fun K' hK' => ?_
  obtain ⟨w1, hrun, r1, r2⟩ := h.upd ht hn hk u
  unfold Oper.wp
  simp [execOp, hop, hm, hx, hv, hrun, Result.andThen]
  exact hK' _ _ (hK w1 r1 r2)
end
theorem zero28 (w : World) : (zeroValue 28).run Tryd.prog w = .ok (.slice none 0 0) w := by kernel_rfl
theorem zero38 (w : World) : (zeroValue 38).run Tryd.prog w = .ok (.slice none 0 0) w := by kernel_rfl
end Go.Proofs.YtnodmobblamlgaaDoor
