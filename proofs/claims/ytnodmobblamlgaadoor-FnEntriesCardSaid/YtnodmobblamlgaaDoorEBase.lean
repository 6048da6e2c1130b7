/- Small laws of memory that the walks of this seat share: which blocks have turned; a row of bytes in a block that is known whole; copy into it. -/
import Derived.Test.YtnodmobblamlgaaDoorEWAll
import Derived.WalkSpells
import Derived.WalkLawsBesides
namespace Go.Proofs.YtnodmobblamlgaaDoor
open Go.RowKit Go.Proofs.YtnodmobblamlgaaDoorW.PrintWords Go.Proofs.YtnodmobblamlgaaDoorW.PrintLast Go.Proofs.YtnodmobblamlgaaDoorW.PrintMore
set_option linter.unusedVariables false
set_option linter.unusedSimpArgs false

/-- W' is W but for the blocks of S and new ones. -/
structure Turn (S : Nat → Prop) (W W' : World) : Prop where
  os : W'.os = W.os
  tape : W'.tape = W.tape
  output : W'.output = W.output
  size : W.heap.size ≤ W'.heap.size
  far : ∀ k, k < W.heap.size → ¬ S k → W'.heap[k]? = W.heap[k]?

namespace Turn
variable {S S' : Nat → Prop} {W W1 W2 : World}
theorem refl (S : Nat → Prop) (W : World) : Turn S W W := ⟨rfl, rfl, rfl, Nat.le_refl _, fun _ _ _ => rfl⟩
theorem trans (h : Turn S W W1) (k : Turn S' W1 W2) (hs : ∀ k, S' k → S k ∨ W.heap.size ≤ k) : Turn S W W2 :=
  ⟨k.os.trans h.os, k.tape.trans h.tape, k.output.trans h.output, Nat.le_trans h.size k.size,
    fun j hj hn => (k.far j (Nat.lt_of_lt_of_le hj h.size) (fun hk => (hs j hk).elim hn (fun h => by omega))).trans (h.far j hj hn)⟩
theorem mono (h : Turn S W W1) (hs : ∀ k, S k → S' k) : Turn S' W W1 := ⟨h.os, h.tape, h.output, h.size, fun k hk hn => h.far k hk (fun hS => hn (hs k hS))⟩
theorem drewN (h : Turn S W W1) (n : Nat) : Turn S W (W1.drewN n) := ⟨h.os, h.tape, h.output, h.size, h.far⟩
theorem drew (h : Turn S W W1) : Turn S W W1.drew := ⟨h.os, h.tape, h.output, h.size, h.far⟩
theorem setCell (h : Turn S W W1) {p : Addr} (hp : S p.block ∨ W.heap.size ≤ p.block) (v : Value) : Turn S W (W1.setCell p v) :=
  ⟨h.os, h.tape, h.output, by simpa [World.setCell] using h.size, fun k hk hn => (Below.heap_setCell W1 p v k (by rintro rfl; rcases hp with hp | hp; exact hn hp; omega)).trans (h.far k hk hn)⟩
theorem alloc (h : Turn S W W1) (o : Obj) : Turn S W (W1.alloc o) :=
  ⟨h.os, h.tape, h.output, by have := h.size; simp; omega, fun k hk hn => (Below.heap_alloc W1 o k (Nat.lt_of_lt_of_le hk h.size)).trans (h.far k hk hn)⟩
theorem of_below {B : Nat} (h : Below B W W1) (hS : ∀ k, B ≤ k → k < W.heap.size → S k) : Turn S W W1 :=
  ⟨h.os, h.tape, h.output, h.size, fun k hk hn => h.block k (by rcases Nat.lt_or_ge k B with h | h; exact h; exact absurd (hS k h hk) hn)⟩
theorem fresh (h : Below W.heap.size W W1) : Turn S W W1 := of_below h (fun k h1 h2 => by omega)
theorem below {B : Nat} {w0 : World} (hB : Below B w0 W) (hsz : B ≤ W.heap.size) (h : Turn S W W1) (hS : ∀ k, S k → B ≤ k) : Below B w0 W1 :=
  hB.trans ⟨h.os, h.tape, h.output, h.size, fun k hk => h.far k (by omega) (fun hk' => by have := hS k hk'; omega)⟩
theorem blk (h : Turn S W W1) {g : Nat} {o : Obj} (hb : W.heap[g]? = some o) (hg : ¬ S g) : W1.heap[g]? = some o := (h.far g (blk_lt hb) hg).trans hb
theorem cell (h : Turn S W W1) {a : Addr} {v : Value} (hc : W.cell? a = some v) (hg : ¬ S a.block) : W1.cell? a = some v :=
  (World.cell?_of_block (w := W) (h.far a.block (World.block_lt_of_cell? W a hc) hg)).trans hc
theorem grown (h : Turn S W W1) {row : Option Nat} (hg : W1.grownBy W2 row) (hr : ∀ k, row = some k → S k ∨ W.heap.size ≤ k) : Turn S W W2 :=
  ⟨hg.os.trans h.os, hg.tape.trans h.tape, hg.output.trans h.output, Nat.le_trans h.size hg.size,
    fun k hk hn => (hg.block k (Nat.lt_of_lt_of_le hk h.size) (fun e => (hr k e.symm).elim hn (fun h => by omega))).trans (h.far k hk hn)⟩
theorem R {α : Type} {d : Kd α} {e base : Nat} {ok : Nat → Prop} {v : Value} {xs : List α} (h : Turn S W W1) (hr : d.R e W base ok v xs) (hok : ∀ k, ok k → ¬ S k) : d.R e W1 base ok v xs :=
  Kd.R_step hr (fun k hk hlt => h.far k hlt (hok k hk))
end Turn

/-- The rows of whole numbers at a block that is known. -/
theorem C_of_blk {W : World} {g : Nat} {cur : Array Value} {t : TypeId} {k : IntKind} {ys : List Int} {n : Nat} (hb : W.heap[g]? = some (.cells cur t (0, 0))) (hn : ys.length = n) (hm : n ≤ 9223372036854775807) (hc : cur.toList.take n = nums k ys) :
    Kd.C (Kd.int k) W (some ⟨g, 0, none⟩) n ys := by
  refine Kd.C_of_reads (d := (0 : Int)) ⟨hn, hm, fun _ => ⟨_, rfl, fun j hj => ?_⟩⟩
  rw [add_plain, blk_cell hb]
  have h1 : (cur.toList.take n)[j]? = (nums k ys)[j]? := by rw [hc]
  rw [List.getElem?_take, if_pos hj, Array.getElem?_toList] at h1
  rw [h1]
  simp [nums, List.getElem?_eq_getElem (show j < ys.length by omega), List.getD_eq_getElem?_getD]

section
variable {P : Program} {ops : Array Oper} {rest : List Oper} {o : Oper} {a : Act} {Q : Exit → Act → World → Prop}
end

theorem Turn.set {W : World} {g : Nat} {cs : Array Value} {t : TypeId} (h : W.heap[g]? = some (.cells cs t (0, 0))) (i : Nat) (v : Value) : Turn (fun k => k = g) W (W.setCell ⟨g, i, none⟩ v) ∧ (W.setCell ⟨g, i, none⟩ v).heap[g]? = some (.cells (cs.setIfInBounds i v) t (0, 0)) :=
  ⟨(Turn.refl (fun k => k = g) W).setCell (p := ⟨g, i, none⟩) (.inl rfl) v, blk_set h i v⟩
end Go.Proofs.YtnodmobblamlgaaDoor
