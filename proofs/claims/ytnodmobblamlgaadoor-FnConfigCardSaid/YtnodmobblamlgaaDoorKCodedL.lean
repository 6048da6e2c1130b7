/- The state of Coded with its list's blocks named; what an append to the list leaves. -/
import Derived.Test.YtnodmobblamlgaaDoorKClear
namespace Go.Proofs.YtnodmobblamlgaaDoor
open Go.RowKit Go.Proofs.YtnodmobblamlgaaDoor.PFnConfig Go.Proofs.YtnodmobblamlgaaDoorW.PrintWords Go.Proofs.YtnodmobblamlgaaDoorW.PrintLast Go.Proofs.YtnodmobblamlgaaDoorW.PrintMore
set_option linter.unusedVariables false
set_option linter.unusedSimpArgs false

structure CstL (L : Nat → Prop) (B g gw gk gl gc : Nat) (w : World) (n : Nat) (known count : Int) (v : Value) (ws : List (List Int)) : Prop where
  h1 : Wst 105 B (fun k => ¬ L k ∧ k ≠ gw ∧ k ≠ gk ∧ k ≠ gl ∧ k ≠ gc) w g n
  h2 : (Kd.slice 5 (Kd.int .u8)).R 26 w B L v ws
  h3 : ∀ k, L k → k < w.heap.size ∧ k ≠ g ∧ k ≠ gw ∧ k ≠ gk ∧ k ≠ gl ∧ k ≠ gc
  hw : w.heap[gw]? = some (.cells #[.pointer (some ⟨g, 0, none⟩)] 103 (0, 0))
  hk : w.heap[gk]? = some (.cells #[.int .i64 known] 3 (0, 0))
  hl : w.heap[gl]? = some (.cells #[v] 48 (0, 0))
  hc : w.heap[gc]? = some (.cells #[.int .i64 count] 3 (0, 0))
  size : B ≤ w.heap.size

theorem Cst.open_ {B g gw gk gl gc n : Nat} {w : World} {known count : Int} {v : Value} {ws : List (List Int)} (h : Cst B g gw gk gl gc w n known count v ws) : ∃ L, CstL L B g gw gk gl gc w n known count v ws := by
  obtain ⟨⟨L, h1, h2, h3⟩, hw, hk, hl, hc, hs⟩ := h
  exact ⟨L, h1, h2, h3, hw, hk, hl, hc, hs⟩
namespace CstL
variable {L : Nat → Prop} {B g gw gk gl gc n : Nat} {w : World} {known count : Int} {v : Value} {ws : List (List Int)}
theorem close (h : CstL L B g gw gk gl gc w n known count v ws) : Cst B g gw gk gl gc w n known count v ws := ⟨⟨L, h.h1, h.h2, h.h3⟩, h.hw, h.hk, h.hl, h.hc, h.size⟩
theorem below {w' : World} (h : CstL L B g gw gk gl gc w n known count v ws) (hb : Below w.heap.size w w') : CstL L B g gw gk gl gc w' n known count v ws := by
  obtain ⟨h1, h2, h3, hw, hk, hl, hc, hs⟩ := h
  have hg : g < w.heap.size := by obtain ⟨_, _, e, _⟩ := h1; exact blk_lt e
  exact ⟨h1.far (hb.block g hg) (fun k _ hlt => hb.block k hlt), Kd.R_step h2 (fun k _ hlt => hb.block k hlt), fun k hk => ⟨Nat.lt_of_lt_of_le (h3 k hk).1 hb.size, (h3 k hk).2⟩,
    (hb.block _ (blk_lt hw)).trans hw, (hb.block _ (blk_lt hk)).trans hk, (hb.block _ (blk_lt hl)).trans hl, (hb.block _ (blk_lt hc)).trans hc, Nat.le_trans hs hb.size⟩
theorem setCount (h : CstL L B g gw gk gl gc w n known count v ws) (D : Cbl B g gw gk gl gc) (x : Int) : CstL L B g gw gk gl gc (w.setCell ⟨gc, 0, none⟩ (.int .i64 x)) n known x v ws := by
  obtain ⟨h1, h2, h3, hw, hk, hl, hc, hs⟩ := h
  obtain ⟨d1, d2, d3, d4, d5, d6, d7, d8, d9, d10⟩ := D.d
  obtain ⟨t1, t2⟩ := Turn.set hc 0 (.int .i64 x)
  have sz : (w.setCell ⟨gc, 0, none⟩ (.int .i64 x)).heap.size = w.heap.size := by simp [World.setCell]
  refine ⟨h1.far (Below.heap_setCell w _ _ g d4) (fun k hk' _ => Below.heap_setCell w _ _ k hk'.2.2.2.2), t1.R h2 (fun k hk' => (h3 k hk').2.2.2.2.2), fun k hk' => by rw [sz]; exact h3 k hk',
    t1.blk hw (fun e => d7 e), t1.blk hk (fun e => d9 e), t1.blk hl (fun e => d10 e), t2, by rw [sz]; exact hs⟩
/-- The list has grown: into its own block, or into new ones. -/
theorem grown {w' : World} {v' : Value} {ws' : List (List Int)} {count' : Int} (h : CstL L B g gw gk gl gc w n known count v ws) (D : Cbl B g gw gk gl gc)
    (hsz : w.heap.size ≤ w'.heap.size) (hfar : ∀ k, k < w.heap.size → ¬ L k → k ≠ gl → k ≠ gc → w'.heap[k]? = w.heap[k]?) (hl' : w'.heap[gl]? = some (.cells #[v'] 48 (0, 0))) (hc' : w'.heap[gc]? = some (.cells #[.int .i64 count'] 3 (0, 0)))
    (hR : (Kd.slice 5 (Kd.int .u8)).R 26 w' B (fun k => L k ∨ w.heap.size ≤ k) v' ws') : Cst B g gw gk gl gc w' n known count' v' ws' := by
  obtain ⟨h1, h2, h3, hw, hk, hl, hc, hs⟩ := h
  obtain ⟨d1, d2, d3, d4, d5, d6, d7, d8, d9, d10⟩ := D.d
  have lw := blk_lt hw
  have lk := blk_lt hk
  have ll := blk_lt hl
  have lc := blk_lt hc
  obtain ⟨vv, bs, e1, e2, e3⟩ := h1
  have lg := blk_lt e1
  have nL : ∀ x, x = g ∨ x = gw ∨ x = gk ∨ x = gl ∨ x = gc → ¬ L x := by
    rintro x hx hL
    have := (h3 x hL).2
    rcases hx with rfl | rfl | rfl | rfl | rfl <;> simp_all
  refine ⟨⟨fun k => (L k ∨ w.heap.size ≤ k) ∧ k < w'.heap.size, ⟨vv, bs, (hfar g lg (nL g (by simp)) d3 d4).trans e1, ?_, e3⟩, Kd.R_mono (Kd.R_bound hR) (fun k hk => ⟨hk.1, hk.2.2.1⟩), fun k hk => ⟨hk.2, ?_⟩⟩,
    (hfar gw lw (nL gw (by simp)) d6 d7).trans hw, (hfar gk lk (nL gk (by simp)) d8 d9).trans hk, hl', hc', Nat.le_trans hs hsz⟩
  · have h4 := Kd.R_bound e2
    refine Kd.R_mono (Kd.R_step h4 (fun k hk hlt => hfar k hlt hk.1.1.1 hk.1.1.2.2.2.1 hk.1.1.2.2.2.2)) (fun k hk => ⟨⟨?_, hk.1.1.2⟩, hk.1.2⟩)
    rintro ⟨hL | hL, _⟩
    · exact hk.1.1.1 hL
    · have := hk.2.2.1; omega
  · rcases hk.1 with hL | hL
    · exact (h3 k hL).2
    · exact ⟨by omega, by omega, by omega, by omega, by omega⟩
end CstL
end Go.Proofs.YtnodmobblamlgaaDoor
