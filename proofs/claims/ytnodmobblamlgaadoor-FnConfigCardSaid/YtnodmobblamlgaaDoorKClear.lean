/- The closure of Coded that clears; the state that it and Coded share. -/
import Derived.Test.YtnodmobblamlgaaDoorKMost
namespace Go.Proofs.YtnodmobblamlgaaDoor
open Go.RowKit Go.Proofs.YtnodmobblamlgaaDoor.PFnConfig Go.Proofs.YtnodmobblamlgaaDoorW.PrintWords Go.Proofs.YtnodmobblamlgaaDoorW.PrintLast Go.Proofs.YtnodmobblamlgaaDoorW.PrintMore
set_option linter.unusedVariables false
set_option linter.unusedSimpArgs false

theorem lzwWidth_l (known : Int) : ∀ (m : Nat) (x : Int), 0 ≤ x → x + m = 12 → ∃ r : Nat, spec_lzwWidth.l0 (m + 1) known x = some (r : Int) ∧ r ≤ 12 := by
  intro m
  induction m with
  | zero =>
    intro x h0 h1
    unfold spec_lzwWidth.l0
    rw [if_pos h0]
    split
    · rw [if_neg (by omega)]
      exact ⟨x.toNat, by rw [show (x.toNat : Int) = x by omega], by omega⟩
    · exact ⟨x.toNat, by rw [show (x.toNat : Int) = x by omega], by omega⟩
  | succ m ih =>
    intro x h0 h1
    unfold spec_lzwWidth.l0
    rw [if_pos h0]
    split
    · rw [if_pos (by omega), w64s (x := x + 1) (by omega) (by omega)]
      exact ih (x + 1) (by omega) (by omega)
    · exact ⟨x.toNat, by rw [show (x.toNat : Int) = x by omega], by omega⟩
theorem lzwWidth_any (known : Int) : ∃ r : Nat, spec_lzwWidth.f 4 known 8 = some (r : Int) ∧ r ≤ 12 := by
  unfold spec_lzwWidth.f
  rw [w64s (x := 8 + 1) (by omega) (by omega)]
  exact lzwWidth_l known 3 9 (by omega) (by omega)

/-- The blocks that Coded's variables lie in. -/
structure Cbl (B g gw gk gl gc : Nat) : Prop where
  bw : B ≤ gw
  bg : B ≤ g
  bk : B ≤ gk
  bl : B ≤ gl
  bc : B ≤ gc
  d : g ≠ gw ∧ g ≠ gk ∧ g ≠ gl ∧ g ≠ gc ∧ gw ≠ gk ∧ gw ≠ gl ∧ gw ≠ gc ∧ gk ≠ gl ∧ gk ≠ gc ∧ gl ≠ gc

/-- The state of Coded: n bits are put; so many codes are known, so many were put since it cleared last. -/
structure Cst (B g gw gk gl gc : Nat) (w : World) (n : Nat) (known count : Int) (v : Value) (ws : List (List Int)) : Prop where
  L : ∃ L : Nat → Prop, Wst 105 B (fun k => ¬ L k ∧ k ≠ gw ∧ k ≠ gk ∧ k ≠ gl ∧ k ≠ gc) w g n ∧ (Kd.slice 5 (Kd.int .u8)).R 26 w B L v ws ∧ ∀ k, L k → k < w.heap.size ∧ k ≠ g ∧ k ≠ gw ∧ k ≠ gk ∧ k ≠ gl ∧ k ≠ gc
  hw : w.heap[gw]? = some (.cells #[.pointer (some ⟨g, 0, none⟩)] 103 (0, 0))
  hk : w.heap[gk]? = some (.cells #[.int .i64 known] 3 (0, 0))
  hl : w.heap[gl]? = some (.cells #[v] 48 (0, 0))
  hc : w.heap[gc]? = some (.cells #[.int .i64 count] 3 (0, 0))
  size : B ≤ w.heap.size

namespace Cst
variable {B g gw gk gl gc n : Nat} {w : World} {known count : Int} {v : Value} {ws : List (List Int)}
theorem put (h : Cst B g gw gk gl gc w n known count v ws) (D : Cbl B g gw gk gl gc) (x : Int) (m : Nat) (hm : m ≤ 64) (hn : n ≤ 900000000) :
    Calls Tryd.prog 34 #[.pointer (some ⟨g, 0, none⟩), .int .i64 x, .int .i64 m] w (fun e w' => e = .returned (.tuple #[]) ∧ Cst B g gw gk gl gc w' (n + m) known count v ws ∧ Turn (fun k => B ≤ k) w w') := by
  obtain ⟨⟨L, h1, h2, h3⟩, hw, hk, hl, hc, hs⟩ := h
  refine (putMost_any B _ g n x m w h1 hs (fun k hk' => ⟨fun hL => by have := (h3 k hL).1; omega, ?_, ?_, ?_, ?_⟩) hn hm).mono ?_
  · have := blk_lt hw; omega
  · have := blk_lt hk; omega
  · have := blk_lt hl; omega
  · have := blk_lt hc; omega
  · rintro e w' ⟨rfl, k1, k2⟩
    obtain ⟨d1, d2, d3, d4, d5, d6, d7, d8, d9, d10⟩ := D.d
    have bg := D.bg
    refine ⟨rfl, ⟨⟨L, k1, k2.R h2 (fun k hk' => ?_), fun k hL => ⟨Nat.lt_of_lt_of_le (h3 k hL).1 k2.size, (h3 k hL).2⟩⟩, k2.blk hw ?_, k2.blk hk ?_, k2.blk hl ?_, k2.blk hc ?_, Nat.le_trans hs k2.size⟩, k2.mono (fun k hk' => ?_)⟩
    · rintro (rfl | ⟨h, _⟩)
      · exact (h3 _ hk').2.1 rfl
      · exact h.1 hk'
    · rintro (rfl | ⟨h, _⟩) <;> simp_all
    · rintro (rfl | ⟨h, _⟩) <;> simp_all
    · rintro (rfl | ⟨h, _⟩) <;> simp_all
    · rintro (rfl | ⟨h, _⟩) <;> simp_all
    · rcases hk' with rfl | ⟨_, h⟩
      · exact bg
      · exact h
theorem drawn0 {w' : World} (h : Cst B g gw gk gl gc w n known count v ws) (k : Drawn0 w w') : Cst B g gw gk gl gc w' n known count v ws := by
  obtain ⟨m, rfl⟩ := k.out
  obtain ⟨⟨L, h1, h2, h3⟩, hw, hk, hl, hc, hs⟩ := h
  exact ⟨⟨L, h1.drawn0 ⟨⟨m, rfl⟩⟩, Kd.R_step h2 (fun _ _ _ => rfl), h3⟩, hw, hk, hl, hc, hs⟩
end Cst

theorem Wst.far {t : TypeId} {B : Nat} {ok : Nat → Prop} {w w' : World} {g n : Nat} (h : Wst t B ok w g n) (hg : w'.heap[g]? = w.heap[g]?) (hm : ∀ k, ok k → k < w.heap.size → w'.heap[k]? = w.heap[k]?) : Wst t B ok w' g n := by
  obtain ⟨v, bs, h1, h2, h3⟩ := h
  exact ⟨v, bs, hg.trans h1, Kd.R_step h2 (fun k hk hlt => hm k hk.1 hlt), h3⟩
namespace Cst
variable {B g gw gk gl gc n : Nat} {w : World} {known count : Int} {v : Value} {ws : List (List Int)}
theorem setKnown (h : Cst B g gw gk gl gc w n known count v ws) (D : Cbl B g gw gk gl gc) (x : Int) : Cst B g gw gk gl gc (w.setCell ⟨gk, 0, none⟩ (.int .i64 x)) n x count v ws := by
  obtain ⟨⟨L, h1, h2, h3⟩, hw, hk, hl, hc, hs⟩ := h
  obtain ⟨d1, d2, d3, d4, d5, d6, d7, d8, d9, d10⟩ := D.d
  obtain ⟨t1, t2⟩ := Turn.set hk 0 (.int .i64 x)
  have sz : (w.setCell ⟨gk, 0, none⟩ (.int .i64 x)).heap.size = w.heap.size := by simp [World.setCell]
  refine ⟨⟨L, h1.far (Below.heap_setCell w _ _ g d2) (fun k hk' _ => Below.heap_setCell w _ _ k hk'.2.2.1), t1.R h2 (fun k hk' => (h3 k hk').2.2.2.1), fun k hk' => by rw [sz]; exact h3 k hk'⟩,
    t1.blk hw (fun e => d5 e), t2, t1.blk hl (fun e => d8 e.symm), t1.blk hc (fun e => d9 e.symm), by rw [sz]; exact hs⟩
theorem setCount (h : Cst B g gw gk gl gc w n known count v ws) (D : Cbl B g gw gk gl gc) (x : Int) : Cst B g gw gk gl gc (w.setCell ⟨gc, 0, none⟩ (.int .i64 x)) n known x v ws := by
  obtain ⟨⟨L, h1, h2, h3⟩, hw, hk, hl, hc, hs⟩ := h
  obtain ⟨d1, d2, d3, d4, d5, d6, d7, d8, d9, d10⟩ := D.d
  obtain ⟨t1, t2⟩ := Turn.set hc 0 (.int .i64 x)
  have sz : (w.setCell ⟨gc, 0, none⟩ (.int .i64 x)).heap.size = w.heap.size := by simp [World.setCell]
  refine ⟨⟨L, h1.far (Below.heap_setCell w _ _ g d4) (fun k hk' _ => Below.heap_setCell w _ _ k hk'.2.2.2.2), t1.R h2 (fun k hk' => (h3 k hk').2.2.2.2.2), fun k hk' => by rw [sz]; exact h3 k hk'⟩,
    t1.blk hw (fun e => d7 e), t1.blk hk (fun e => d9 e), t1.blk hl (fun e => d10 e), t2, by rw [sz]; exact hs⟩
theorem emptyList (h : Cst B g gw gk gl gc w n known count v ws) (D : Cbl B g gw gk gl gc) :
    Cst B g gw gk gl gc ((w.alloc (.cells #[] 26)).setCell ⟨gl, 0, none⟩ (.slice (some ⟨w.heap.size, 0, none⟩) 0 0)) n known count (.slice (some ⟨w.heap.size, 0, none⟩) 0 0) [] := by
  obtain ⟨⟨L, h1, h2, h3⟩, hw, hk, hl, hc, hs⟩ := h
  obtain ⟨d1, d2, d3, d4, d5, d6, d7, d8, d9, d10⟩ := D.d
  have lw := blk_lt hw
  have lk := blk_lt hk
  have ll := blk_lt hl
  have lc := blk_lt hc
  have hfar : ∀ k, k ≠ gl → k < w.heap.size → ((w.alloc (.cells #[] 26)).setCell ⟨gl, 0, none⟩ (.slice (some ⟨w.heap.size, 0, none⟩) 0 0)).heap[k]? = w.heap[k]? := fun k hk hlt =>
    (Below.heap_setCell _ ⟨gl, 0, none⟩ _ k hk).trans (Below.heap_alloc w _ k hlt)
  have sz : ((w.alloc (.cells #[] 26)).setCell ⟨gl, 0, none⟩ (.slice (some ⟨w.heap.size, 0, none⟩) 0 0)).heap.size = w.heap.size + 1 := by simp [World.setCell]
  obtain ⟨t1, t2⟩ := Turn.set (blk_alloc hl (.cells #[] 26)) 0 (.slice (some ⟨w.heap.size, 0, none⟩) 0 0)
  obtain ⟨vv, bs, e1, e2, e3⟩ := h1
  have lg := blk_lt e1
  refine ⟨⟨fun k => k = w.heap.size, ⟨vv, bs, (hfar g d3 lg).trans e1, ?_, e3⟩, ?_, fun k hk => by rw [sz]; subst hk; omega⟩, (hfar gw d6 lw).trans hw, (hfar gk d8 lk).trans hk, t2, (hfar gc (fun e => d10 e.symm) lc).trans hc, by rw [sz]; omega⟩
  · have h4 := Kd.R_mono (Kd.R_bound e2) (ok' := fun k => (¬ k = w.heap.size ∧ k ≠ gw ∧ k ≠ gk ∧ k ≠ gl ∧ k ≠ gc) ∧ k ≠ g) (fun k hk => ⟨⟨by have := hk.2.2.1; omega, hk.1.1.2⟩, hk.1.2⟩)
    exact Kd.R_step h4 (fun k hk hlt => hfar k hk.1.2.2.2.1 hlt)
  · have h5 := World.ownsRow_lit (base := B) (e := 26) (size := 1) w #[] 0 hs (by simp [maxLen]) (by simp)
    have h6 : (Kd.slice 5 (Kd.int .u8)).R 26 (w.alloc (.cells #[] 26)) B (fun k => k = w.heap.size) (.slice (some ⟨w.heap.size, 0, none⟩) 0 0) [] :=
      ⟨fun k hk => by simpa [Value.ownBlock, eq_comm] using hk, [], h5, Reps.none _ _⟩
    exact Kd.R_step h6 (fun k hk _ => Below.heap_setCell _ ⟨gl, 0, none⟩ _ k (by rw [hk]; show w.heap.size ≠ gl; omega))
end Cst

set_option maxHeartbeats 1600000 in
theorem clear_any (B g gw gk gl gc n : Nat) (known count : Int) (v : Value) (ws : List (List Int)) (W : World) (h : Cst B g gw gk gl gc W n known count v ws) (D : Cbl B g gw gk gl gc) (hn : n ≤ 900000000) :
    Calls Tryd.prog 33 #[.pointer (some ⟨gw, 0, none⟩), .pointer (some ⟨gk, 0, none⟩), .pointer (some ⟨gc, 0, none⟩), .pointer (some ⟨gl, 0, none⟩)] W
      (fun e w' => e = .returned (.tuple #[]) ∧ ∃ n' v', n' ≤ n + 12 ∧ Cst B g gw gk gl gc w' n' 258 0 v' [] ∧ Turn (fun k => B ≤ k) W w') := by
  have HS := Aside0.mk h
  obtain ⟨r, hr, hr12⟩ := lzwWidth_any known
  have HC := Aside0.mk (fun w => spec_lzwWidth.calls 4 known 8 r w hr)
  have hcw : W.cell? ⟨gw, 0, none⟩ = some (.pointer (some ⟨g, 0, none⟩)) := (blk_cell h.hw 0).trans rfl
  have hck : W.cell? ⟨gk, 0, none⟩ = some (.int .i64 known) := (blk_cell h.hk 0).trans rfl
  have HSD : Aside0 (Cst B g gw gk gl gc W.drew n known count v ws) := ⟨h.drawn0 ⟨⟨1, rfl⟩⟩⟩
  have TD := Aside0.mk ((Turn.refl (fun k => B ≤ k) W).drew)
  clear h hr
  go_enter Tryd.func33, Tryd.ntmps33
  go_upto_region 0 with (fail)
  go_region_with (first | (go_at_call 35; refine (HC.out _).mono ?_; rintro e w3 ⟨rfl, k1⟩; have K1 := Aside0.mk (HSD.out.drawn0 k1); have T1 := Aside0.mk (TD.out.drawn0 k1); have c3 : w3.cell? ⟨gw, 0, none⟩ = some (.pointer (some ⟨g, 0, none⟩)) := (blk_cell K1.out.hw 0).trans rfl; clear k1) | (go_at_call 34; refine (K1.out.put D _ r (by omega) hn).mono ?_; rintro e w4 ⟨rfl, k1, k2⟩; have K2 := Aside0.mk k1; have T2 := Aside0.mk (T1.out.trans k2 (fun k h => .inl h)); clear k1 k2 K1 T1 c3))
  all_goals
    clear HS HC hcw hck HSD TD
    have KA := Aside0.mk (K2.out.setKnown D 258)
    have KB := Aside0.mk (KA.out.setCount D 0)
    have ck : w4.cell? ⟨gk, 0, none⟩ = some (.int .i64 known) := (blk_cell K2.out.hk 0).trans rfl
    have fk : w4.frozen? ⟨gk, 0, none⟩ = false := blk_frozen K2.out.hk 0
    have cc : (w4.setCell ⟨gk, 0, none⟩ (.int .i64 258)).cell? ⟨gc, 0, none⟩ = some (.int .i64 count) := (blk_cell KA.out.hc 0).trans rfl
    have fc : (w4.setCell ⟨gk, 0, none⟩ (.int .i64 258)).frozen? ⟨gc, 0, none⟩ = false := blk_frozen KA.out.hc 0
    go_upto_region 2 with (fail)
    have TB : Aside0 (Turn (fun k => B ≤ k) W ((w4.setCell ⟨gk, 0, none⟩ (.int .i64 258)).setCell ⟨gc, 0, none⟩ (.int .i64 0))) := ⟨(T2.out.setCell (p := ⟨gk, 0, none⟩) (.inl D.bk) _).setCell (p := ⟨gc, 0, none⟩) (.inl D.bc) _⟩
    generalize (w4.setCell ⟨gk, 0, none⟩ (.int .i64 258)).setCell ⟨gc, 0, none⟩ (.int .i64 0) = w5 at *
    have KC := Aside0.mk (KB.out.emptyList D)
    have hl5 := blk_alloc KB.out.hl (.cells #[] 26)
    have cl : (w5.alloc (.cells #[] 26)).cell? ⟨gl, 0, none⟩ = some v := (blk_cell hl5 0).trans rfl
    have fl : (w5.alloc (.cells #[] 26)).frozen? ⟨gl, 0, none⟩ = false := blk_frozen hl5 0
    clear hl5
    go_wp2
    go_end0
    exact ⟨rfl, _, _, by omega, KC.out, (TB.out.alloc _).setCell (p := ⟨gl, 0, none⟩) (.inl D.bl) _⟩
end Go.Proofs.YtnodmobblamlgaaDoor
