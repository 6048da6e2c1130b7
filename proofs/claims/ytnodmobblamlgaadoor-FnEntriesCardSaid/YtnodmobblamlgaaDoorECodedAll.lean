/- The state of Coded with its list's blocks named; what an append to the list leaves. -/
import Derived.Test.YtnodmobblamlgaaDoorEMostClear
import Derived.BigQuiet
namespace Go.Proofs.YtnodmobblamlgaaDoor
open Go.RowKit Go.Proofs.YtnodmobblamlgaaDoor.PFnConfig Go.Proofs.YtnodmobblamlgaaDoorW.PrintWords Go.Proofs.YtnodmobblamlgaaDoorW.PrintLast Go.Proofs.YtnodmobblamlgaaDoorW.PrintMore
set_option linter.unusedVariables false
set_option linter.unusedSimpArgs false

structure CstL (L : Nat → Prop) (B g gw gk gl gc : Nat) (w : World) (n : Nat) (known count : Int) (v : Value) (ws : List (List Int)) : Prop where
  h1 : Wst 105 B (fun k => ¬ L k ∧ k ≠ gw ∧ k ≠ gk ∧ k ≠ gl ∧ k ≠ gc) w g n
  h2 : (Kd.slice 5 (Kd.int .u8)).R 26 w B L v ws
  h3 : ∀ k, L k → k < w.heap.size ∧ k ≠ g ∧ k ≠ gw ∧ k ≠ gk ∧ k ≠ gl ∧ k ≠ gc
  hw : w.heap[gw]? = some (.cells #[.pointer (some ⟨g, 0, none⟩)] 103 (0, 0))
  hk : w.heap[gk]? = some (.cells #[.int .i64 known] 3 (0, 0))
  hl : w.heap[gl]? = some (.cells #[v] 48 (0, 0))
  hc : w.heap[gc]? = some (.cells #[.int .i64 count] 3 (0, 0))
  size : B ≤ w.heap.size

theorem Cst.open_ {B g gw gk gl gc n : Nat} {w : World} {known count : Int} {v : Value} {ws : List (List Int)} (h : Cst B g gw gk gl gc w n known count v ws) : ∃ L, CstL L B g gw gk gl gc w n known count v ws := by
  obtain ⟨⟨L, h1, h2, h3⟩, hw, hk, hl, hc, hs⟩ := h
  exact ⟨L, h1, h2, h3, hw, hk, hl, hc, hs⟩
namespace CstL
variable {L : Nat → Prop} {B g gw gk gl gc n : Nat} {w : World} {known count : Int} {v : Value} {ws : List (List Int)}
theorem close (h : CstL L B g gw gk gl gc w n known count v ws) : Cst B g gw gk gl gc w n known count v ws := ⟨⟨L, h.h1, h.h2, h.h3⟩, h.hw, h.hk, h.hl, h.hc, h.size⟩
theorem below {w' : World} (h : CstL L B g gw gk gl gc w n known count v ws) (hb : Below w.heap.size w w') : CstL L B g gw gk gl gc w' n known count v ws := by
  obtain ⟨h1, h2, h3, hw, hk, hl, hc, hs⟩ := h
  have hg : g < w.heap.size := by obtain ⟨_, _, e, _⟩ := h1; exact blk_lt e
  exact ⟨h1.far (hb.block g hg) (fun k _ hlt => hb.block k hlt), Kd.R_step h2 (fun k _ hlt => hb.block k hlt), fun k hk => ⟨Nat.lt_of_lt_of_le (h3 k hk).1 hb.size, (h3 k hk).2⟩,
    (hb.block _ (blk_lt hw)).trans hw, (hb.block _ (blk_lt hk)).trans hk, (hb.block _ (blk_lt hl)).trans hl, (hb.block _ (blk_lt hc)).trans hc, Nat.le_trans hs hb.size⟩
theorem setCount (h : CstL L B g gw gk gl gc w n known count v ws) (D : Cbl B g gw gk gl gc) (x : Int) : CstL L B g gw gk gl gc (w.setCell ⟨gc, 0, none⟩ (.int .i64 x)) n known x v ws := by
  obtain ⟨h1, h2, h3, hw, hk, hl, hc, hs⟩ := h
  obtain ⟨d1, d2, d3, d4, d5, d6, d7, d8, d9, d10⟩ := D.d
  obtain ⟨t1, t2⟩ := Turn.set hc 0 (.int .i64 x)
  have sz : (w.setCell ⟨gc, 0, none⟩ (.int .i64 x)).heap.size = w.heap.size := by simp [World.setCell]
  refine ⟨h1.far (Below.heap_setCell w _ _ g d4) (fun k hk' _ => Below.heap_setCell w _ _ k hk'.2.2.2.2), t1.R h2 (fun k hk' => (h3 k hk').2.2.2.2.2), fun k hk' => by rw [sz]; exact h3 k hk',
    t1.blk hw (fun e => d7 e), t1.blk hk (fun e => d9 e), t1.blk hl (fun e => d10 e), t2, by rw [sz]; exact hs⟩
/-- The list has grown: into its own block, or into new ones. -/
theorem grown {w' : World} {v' : Value} {ws' : List (List Int)} {count' : Int} (h : CstL L B g gw gk gl gc w n known count v ws) (D : Cbl B g gw gk gl gc)
    (hsz : w.heap.size ≤ w'.heap.size) (hfar : ∀ k, k < w.heap.size → ¬ L k → k ≠ gl → k ≠ gc → w'.heap[k]? = w.heap[k]?) (hl' : w'.heap[gl]? = some (.cells #[v'] 48 (0, 0))) (hc' : w'.heap[gc]? = some (.cells #[.int .i64 count'] 3 (0, 0)))
    (hR : (Kd.slice 5 (Kd.int .u8)).R 26 w' B (fun k => L k ∨ w.heap.size ≤ k) v' ws') : Cst B g gw gk gl gc w' n known count' v' ws' := by
  obtain ⟨h1, h2, h3, hw, hk, hl, hc, hs⟩ := h
  obtain ⟨d1, d2, d3, d4, d5, d6, d7, d8, d9, d10⟩ := D.d
  have lw := blk_lt hw
  have lk := blk_lt hk
  have ll := blk_lt hl
  have lc := blk_lt hc
  obtain ⟨vv, bs, e1, e2, e3⟩ := h1
  have lg := blk_lt e1
  have nL : ∀ x, x = g ∨ x = gw ∨ x = gk ∨ x = gl ∨ x = gc → ¬ L x := by
    rintro x hx hL
    have := (h3 x hL).2
    rcases hx with rfl | rfl | rfl | rfl | rfl <;> simp_all
  refine ⟨⟨fun k => (L k ∨ w.heap.size ≤ k) ∧ k < w'.heap.size, ⟨vv, bs, (hfar g lg (nL g (by simp)) d3 d4).trans e1, ?_, e3⟩, Kd.R_mono (Kd.R_bound hR) (fun k hk => ⟨hk.1, hk.2.2.1⟩), fun k hk => ⟨hk.2, ?_⟩⟩,
    (hfar gw lw (nL gw (by simp)) d6 d7).trans hw, (hfar gk lk (nL gk (by simp)) d8 d9).trans hk, hl', hc', Nat.le_trans hs hsz⟩
  · have h4 := Kd.R_bound e2
    refine Kd.R_mono (Kd.R_step h4 (fun k hk hlt => hfar k hlt hk.1.1.1 hk.1.1.2.2.2.1 hk.1.1.2.2.2.2)) (fun k hk => ⟨⟨?_, hk.1.1.2⟩, hk.1.2⟩)
    rintro ⟨hL | hL, _⟩
    · exact hk.1.1.1 hL
    · have := hk.2.2.1; omega
  · rcases hk.1 with hL | hL
    · exact (h3 k hL).2
    · exact ⟨by omega, by omega, by omega, by omega, by omega⟩
end CstL
end Go.Proofs.YtnodmobblamlgaaDoor
/- Coded: codes of LZW; how long they are at most. -/
namespace Go.Proofs.YtnodmobblamlgaaDoor
open Go.RowKit Go.Proofs.YtnodmobblamlgaaDoor.PFnConfig Go.Proofs.YtnodmobblamlgaaDoorW.PrintWords Go.Proofs.YtnodmobblamlgaaDoorW.PrintLast Go.Proofs.YtnodmobblamlgaaDoorW.PrintMore
set_option linter.unusedVariables false
set_option linter.unusedSimpArgs false

abbrev coded0 (W : World) : World :=
  (((((W.alloc (.cells #[.slice none 0 0, .int .i64 0] 105)).alloc (.cells #[.pointer (some ⟨W.heap.size, 0, none⟩)] 103)).alloc (.cells #[.int .i64 258] 3)).alloc (.cells #[] 26)).alloc
    (.cells #[.slice (some ⟨W.heap.size + 1 + 1 + 1, 0, none⟩) 0 0] 48)).alloc (.cells #[.int .i64 0] 3)
theorem Cst.init (W : World) : Cst W.heap.size W.heap.size (W.heap.size + 1) (W.heap.size + 1 + 1) (W.heap.size + 1 + 1 + 1 + 1) (W.heap.size + 1 + 1 + 1 + 1 + 1) (coded0 W) 0 258 0 (.slice (some ⟨W.heap.size + 1 + 1 + 1, 0, none⟩) 0 0) [] := by
  have a0 := heap_new_ W (.cells #[.slice none 0 0, .int .i64 0] 105)
  have s0 : (W.alloc (.cells #[.slice none 0 0, .int .i64 0] 105)).heap.size = W.heap.size + 1 := by simp
  unfold coded0
  generalize W.alloc (.cells #[.slice none 0 0, .int .i64 0] 105) = w0 at *
  have a1 := heap_new_ w0 (.cells #[.pointer (some ⟨W.heap.size, 0, none⟩)] 103)
  have s1 : (w0.alloc (.cells #[.pointer (some ⟨W.heap.size, 0, none⟩)] 103)).heap.size = W.heap.size + 1 + 1 := by simp [s0]
  have b0 := blk_alloc a0 (.cells #[.pointer (some ⟨W.heap.size, 0, none⟩)] 103)
  rw [s0] at a1
  generalize w0.alloc (.cells #[.pointer (some ⟨W.heap.size, 0, none⟩)] 103) = w1 at *
  have a2 := heap_new_ w1 (.cells #[.int .i64 258] 3)
  have s2 : (w1.alloc (.cells #[.int .i64 258] 3)).heap.size = W.heap.size + 1 + 1 + 1 := by simp [s1]
  have c0 := blk_alloc b0 (.cells #[.int .i64 258] 3)
  have c1 := blk_alloc a1 (.cells #[.int .i64 258] 3)
  rw [s1] at a2
  generalize w1.alloc (.cells #[.int .i64 258] 3) = w2 at *
  have h5 := World.ownsRow_lit (base := W.heap.size) (e := 26) (size := 1) w2 #[] 0 (by omega) (by simp [maxLen]) (by simp)
  have h6 : (Kd.slice 5 (Kd.int .u8)).R 26 (w2.alloc (.cells #[] 26)) W.heap.size (fun k => k = W.heap.size + 1 + 1 + 1) (.slice (some ⟨W.heap.size + 1 + 1 + 1, 0, none⟩) 0 0) [] := by
    rw [s2] at h5
    exact ⟨fun k hk => by simpa [Value.ownBlock, eq_comm] using hk, [], h5, Reps.none _ _⟩
  have s3 : (w2.alloc (.cells #[] 26)).heap.size = W.heap.size + 1 + 1 + 1 + 1 := by simp [s2]
  have d0 := blk_alloc c0 (.cells #[] 26)
  have d1 := blk_alloc c1 (.cells #[] 26)
  have d2 := blk_alloc a2 (.cells #[] 26)
  generalize w2.alloc (.cells #[] 26) = w3 at *
  have a4 := heap_new_ w3 (.cells #[.slice (some ⟨W.heap.size + 1 + 1 + 1, 0, none⟩) 0 0] 48)
  have s4 : (w3.alloc (.cells #[.slice (some ⟨W.heap.size + 1 + 1 + 1, 0, none⟩) 0 0] 48)).heap.size = W.heap.size + 1 + 1 + 1 + 1 + 1 := by simp [s3]
  have e0 := blk_alloc d0 (.cells #[.slice (some ⟨W.heap.size + 1 + 1 + 1, 0, none⟩) 0 0] 48)
  have e1 := blk_alloc d1 (.cells #[.slice (some ⟨W.heap.size + 1 + 1 + 1, 0, none⟩) 0 0] 48)
  have e2 := blk_alloc d2 (.cells #[.slice (some ⟨W.heap.size + 1 + 1 + 1, 0, none⟩) 0 0] 48)
  have h7 := Kd.R_below h6 ((Below.refl _ w3).alloc (Nat.le_refl _) (.cells #[.slice (some ⟨W.heap.size + 1 + 1 + 1, 0, none⟩) 0 0] 48))
  rw [s3] at a4
  generalize w3.alloc (.cells #[.slice (some ⟨W.heap.size + 1 + 1 + 1, 0, none⟩) 0 0] 48) = w4 at *
  have a5 := heap_new_ w4 (.cells #[.int .i64 0] 3)
  have s5 : (w4.alloc (.cells #[.int .i64 0] 3)).heap.size = W.heap.size + 1 + 1 + 1 + 1 + 1 + 1 := by simp [s4]
  rw [s4] at a5
  refine ⟨⟨fun k => k = W.heap.size + 1 + 1 + 1, ⟨_, [], blk_alloc e0 _, Kd.R_nil _ _ _ _ _, rfl⟩, Kd.R_below h7 ((Below.refl _ w4).alloc (Nat.le_refl _) _), ?_⟩, blk_alloc e1 _, blk_alloc e2 _, blk_alloc a4 _, a5, by omega⟩
  intro k hk
  subst hk
  omega
theorem Cst.below {B g gw gk gl gc n : Nat} {w w' : World} {known count : Int} {v : Value} {ws : List (List Int)} (h : Cst B g gw gk gl gc w n known count v ws) (hb : Below w.heap.size w w') : Cst B g gw gk gl gc w' n known count v ws := by
  obtain ⟨⟨L, h1, h2, h3⟩, hw, hk, hl, hc, hs⟩ := h
  have hg : g < w.heap.size := by obtain ⟨_, _, e, _⟩ := h1; exact blk_lt e
  exact ⟨⟨L, h1.far (hb.block g hg) (fun k _ hlt => hb.block k hlt), Kd.R_step h2 (fun k _ hlt => hb.block k hlt), fun k hk => ⟨Nat.lt_of_lt_of_le (h3 k hk).1 hb.size, (h3 k hk).2⟩⟩,
    (hb.block _ (blk_lt hw)).trans hw, (hb.block _ (blk_lt hk)).trans hk, (hb.block _ (blk_lt hl)).trans hl, (hb.block _ (blk_lt hc)).trans hc, Nat.le_trans hs hb.size⟩
theorem Cst.alloc {B g gw gk gl gc n : Nat} {w : World} {known count : Int} {v : Value} {ws : List (List Int)} (h : Cst B g gw gk gl gc w n known count v ws) (o : Obj) : Cst B g gw gk gl gc (w.alloc o) n known count v ws :=
  h.below ((Below.refl _ _).alloc (Nat.le_refl _) o)
theorem Cbl.init (b : Nat) : Cbl b b (b + 1) (b + 1 + 1) (b + 1 + 1 + 1 + 1) (b + 1 + 1 + 1 + 1 + 1) := ⟨by omega, by omega, by omega, by omega, by omega, by omega⟩

/-- data[:b] and data[a:], lengths by their numbers. -/
theorem take_u8 (A : Option Addr) (c n : Nat) (xs : List Int) (b : Nat) (hl : xs.length = n) (hb : b ≤ n) (hc : n ≤ c) :
    (∀ W : World, (Instr.slice 26 (.slice A n c) none (some (.int .i64 (b : Int))) none).run Tryd.prog W = .ok (.slice A b c) W) ∧
      (∀ w, Kd.C (Kd.int .u8) w A n xs → Kd.C (Kd.int .u8) w A b (xs.take b)) := by
  subst hl
  obtain ⟨i0, hi0, hsz0⟩ := i5'
  obtain ⟨h1, h2, h3⟩ := print_take_of (P := Tryd.prog) (Value.int .u8) (0 : Int) 26 5 .i64 Tryd.underlying26 hi0 hsz0 A c xs (b : Int) (by omega) (by omega) hc
  have hl : (xs.take b).length = b := by rw [List.length_take]; omega
  simp only [Int.toNat_natCast, hl] at h1 h2
  exact ⟨h1, fun w h => Kd.C_of_reads (h1 := fun _ => rfl) (h2 w (Kd.reads_of_C (h1 := fun _ => rfl) h))⟩
theorem drop_u8 (A : Option Addr) (c n : Nat) (xs : List Int) (a : Nat) (hl : xs.length = n) (ha : a ≤ n) (hc : n ≤ c) :
    ∃ A' : Option Addr, (∀ W : World, (Instr.slice 26 (.slice A n c) (some (.int .i64 (a : Int))) none none).run Tryd.prog W = .ok (.slice A' (n - a) (c - a)) W) ∧
      (∀ w, Kd.C (Kd.int .u8) w A n xs → Kd.C (Kd.int .u8) w A' (n - a) (xs.drop a)) := by
  subst hl
  obtain ⟨i0, hi0, hsz0⟩ := i5'
  obtain ⟨A', h1, h2, h3⟩ := print_drop_of (P := Tryd.prog) (Value.int .u8) (0 : Int) 26 5 .i64 Tryd.underlying26 hi0 hsz0 A c xs (a : Int) (by omega) (by omega) hc
  simp only [Int.toNat_natCast, List.length_drop] at h1 h2
  exact ⟨A', h1, fun w h => Kd.C_of_reads (h1 := fun _ => rfl) (h2 w (Kd.reads_of_C (h1 := fun _ => rfl) h))⟩

theorem i26 : (Tryd.prog.info? 26).map (fun i => (i.zero, i.size, i.bytes)) = some (some (.slice none 0 0), 1, 24) := by kernel_rfl
theorem cell_alloc {w : World} {a : Addr} {v : Value} (h : w.cell? a = some v) (o : Obj) : (w.alloc o).cell? a = some v :=
  (World.cell?_of_block (Below.heap_alloc w o _ (World.block_lt_of_cell? w a h))).trans h

set_option maxHeartbeats 3200000 in
set_option maxRecDepth 100000 in
theorem Coded_any (A : Option Addr) (c : Nat) (xs : List Int) (W : World) (hx : Kd.C (Kd.int .u8) W A xs.length xs) (hxc : xs.length ≤ c) (hxl : xs.length ≤ 20000) (hx0 : 0 < xs.length) :
    Calls Tryd.prog 27 #[.slice A xs.length c, .int .i64 37] W (NewBytes W 300000) := by
  have HX := Aside0.mk hx
  have HI := Aside0.mk (Cst.init W)
  have D := Cbl.init W.heap.size
  have HB0 : Aside0 (Below W.heap.size W (coded0 W)) := ⟨(((((((Below.refl W.heap.size W).alloc (Nat.le_refl _) _).alloc (by simp) _).alloc (by simp; omega) _).alloc (by simp; omega) _).alloc (by simp; omega) _).alloc (by simp; omega) _)⟩
  have HC := Aside0.mk (clear_any _ _ _ _ _ _ _ _ _ _ _ _ HI.out D (by omega))
  clear hx
  go_enter Tryd.func27, Tryd.ntmps27
  go_wp2_with (go_at_call 33; refine HC.out.mono ?_; rintro e w1 ⟨rfl, n1, v1, hn1, k1, k2⟩; have K1 := Aside0.mk k1; have B1 : Aside0 (Below W.heap.size W w1) := ⟨Turn.below HB0.out (by have := HB0.out.size; omega) k2 (fun k h => h)⟩; clear k1 k2)
  have K2 := Aside0.mk (K1.out.alloc (.cells #[] 5))
  have B2 := Aside0.mk (B1.out.alloc (by have := B1.out.size; omega) (.cells #[] 5))
  clear K1 B1 HI HC
  go_loopg [0, 10, 11, 12, 13, 14] xs.length (fun kq v0 v10 v11 v12 v13 v14 wr => ∃ (i : Nat) (A' : Option Addr) (c' : Nat), v0 = .slice A' (xs.length - i) c' ∧ Aside0 (kq = xs.length - i ∧ i ≤ xs.length ∧ xs.length - i ≤ c') ∧ Aside0 (Kd.C (Kd.int .u8) W A' (xs.length - i) (xs.drop i)) ∧ Aside0 (Below W.heap.size W wr) ∧
    Aside0 (∃ n known count v ws, n ≤ 24 * i + 12 ∧ ws.length ≤ i ∧ Cst W.heap.size W.heap.size (W.heap.size + 1) (W.heap.size + 1 + 1) (W.heap.size + 1 + 1 + 1 + 1) (W.heap.size + 1 + 1 + 1 + 1 + 1) wr n known count v ws))
  case atStart => exact ⟨0, A, c, rfl, ⟨rfl, by omega, hxc⟩, HX, B2, ⟨_, _, _, _, _, by omega, by simp, K2.out⟩⟩
  case round =>
    clear K2 B2
    obtain ⟨i, A', c', rfl, HK, HC, HB, HS⟩ := hrel
    obtain ⟨n, known, count, v, ws, hn, hws, hst⟩ := HS.out
    have HT := Aside0.mk hst
    clear HS hst
    have hi1 := HK.out.2.1
    have hic := HK.out.2.2
    rcases Nat.lt_or_ge i xs.length with hi | hi
    · obtain ⟨ad, hA, hc0⟩ := Kd.at_int HC.out 0 (by omega) (by omega)
      subst hA
      have hc1 : wr.cell? ad = some (.int .u8 (rd (xs.drop i) 0)) := by have := (HB.out.cell (World.block_lt_of_cell? W _ hc0)).trans hc0; simpa [Addr.add] using this
      obtain ⟨L, _, hRl, _⟩ := HT.out.L
      obtain ⟨AL, cL, rfl, hcL, hCL⟩ := Kd.R_reads hRl
      have hcl : wr.cell? ⟨W.heap.size + 1 + 1 + 1 + 1, 0, none⟩ = some (.slice AL ws.length cL) := (blk_cell HT.out.hl 0).trans rfl
      have HCL := Aside0.mk hCL
      clear hCL hRl hc0
      have HDLi : Aside0 ((xs.drop i).length = xs.length - i) := ⟨List.length_drop⟩
      have h24 : decide (0 < xs.length - i) = true := decide_eq_true (by omega)
      go_wp2
      obtain ⟨wo, rfl⟩ : ∃ wo : World, wo = wr := ⟨_, rfl⟩
      obtain ⟨go, rfl⟩ : ∃ go : Nat, go = gk := ⟨_, rfl⟩
      go_loopg [11, 12, 13, 14, 31] ws.length (fun kq v11 v12 v13 v14 v31 wr => ∃ (j m : Nat) (x : Int), v31 = .int .i64 j ∧ v12 = .int .i64 m ∧ v11 = .int .i64 x ∧ Aside0 (kq = ws.length - j ∧ j ≤ ws.length ∧ 1 ≤ m ∧ m ≤ xs.length - i) ∧ Aside0 (Drawn0 wo wr))
      case atStart => exact ⟨0, 1, _, rfl, rfl, rfl, ⟨rfl, by omega, by omega, by omega⟩, ⟨Drawn0.refl _⟩⟩
      case round =>
        obtain ⟨j, m, x, rfl, rfl, rfl, HJ, HD⟩ := hrel
        have hj1 := HJ.out.2.1
        have hm1 := HJ.out.2.2.1
        have hm2 := HJ.out.2.2.2
        rcases Nat.lt_or_ge j ws.length with hj | hj
        · obtain ⟨ad2, cs, hA, hcs1, hK, hcell⟩ := Kd.C_get (Kd.C_below HCL.out HD.out.below) [] (j : Int) (by omega) (by omega)
          subst hA
          obtain ⟨A2, c2, rfl, hl2, hC2⟩ := hK
          have hc2 := hcell 0 _ rfl
          rw [show (j : Int).toNat * (Kd.slice 5 (Kd.int .u8)).sz + 0 = j by show j * 1 + 0 = j; omega] at hc2
          simp only [Int.toNat_natCast] at hc2 hl2 hC2
          have HC2 := Aside0.mk hC2
          clear hcell hC2 hcs1
          generalize ws.getD j [] = word at *
          go_upto_region 13 with (fail)
          have hdl : (xs.drop i).length = xs.length - i := List.length_drop
          have HDL := Aside0.mk hdl
          clear hdl
          go_cut [31, 56] from 31 to 61 (fun v31 v wx => v31 = .int .i64 j ∧ ∃ b : Bool, v = .bool b ∧ Aside0 (b = true → m < word.length ∧ word.length ≤ xs.length - i) ∧ Aside0 (Drawn0 wo wx))
          case first =>
            -- <
            have HDD : Aside0 (Drawn0 wo wr.drew) := ⟨HD.out.step 1⟩
            by_cases a1 : m < word.length
            · by_cases a2 : word.length ≤ xs.length - i
              · have g1 : decide ((m : Int) < (word.length : Int)) = true := decide_eq_true (by omega)
                have g2 : decide ((word.length : Int) ≤ ((xs.length - i : Nat) : Int)) = true := decide_eq_true (by omega)
                obtain ⟨hcut, hct⟩ := take_u8 (some ad) c' (xs.length - i) (xs.drop i) word.length HDL.out a2 hic
                have hcv1 : ∀ n, (Go.convert 26 9 (.slice (some ad) word.length c')).run Tryd.prog (wr.drewN n) = .ok (.string (strOfNums ((xs.drop i).take word.length))) (wr.drewN n) := fun n =>
                  Kd.C_string (P := Tryd.prog) (c := c') Tryd.underlying26 Tryd.underlying5 Tryd.underlying9 (hct _ (Kd.C_below (Kd.C_below HC.out HB.out) (HD.out.step n).below))
                have hcv2 : ∀ n, (Go.convert 26 9 (.slice A2 word.length c2)).run Tryd.prog (wr.drewN n) = .ok (.string (strOfNums word)) (wr.drewN n) := fun n =>
                  Kd.C_string (P := Tryd.prog) (c := c2) Tryd.underlying26 Tryd.underlying5 Tryd.underlying9 (Kd.C_below HC2.out (Drawn0.below ((Drawn0.refl wr).step n)))
                clear hct
                go_quiet (fail)
                go_wp2_with (fail)
                go_meet
                exact ⟨rfl, _, rfl, ⟨fun _ => ⟨a1, a2⟩⟩, ⟨HD.out.step _⟩⟩
              · have g1 : decide ((m : Int) < (word.length : Int)) = true := decide_eq_true (by omega)
                have g2 : decide ((word.length : Int) ≤ ((xs.length - i : Nat) : Int)) = false := decide_eq_false (by omega)
                go_quiet (fail)
                go_wp2_with (fail)
                go_meet
                exact ⟨rfl, _, rfl, ⟨fun h => by cases h⟩, ⟨HD.out.step _⟩⟩
            · have g1 : decide ((m : Int) < (word.length : Int)) = false := decide_eq_false (by omega)
              go_quiet (fail)
              go_wp2_with (fail)
              go_meet
              exact ⟨rfl, _, rfl, ⟨fun h => by cases h⟩, ⟨HD.out.step _⟩⟩
            -- >
          case rest =>
            obtain ⟨rfl, b, rfl, HG, HD2⟩ := hcut
            -- <
            cases b
            · go_wp2
              go_roundg (ws.length - (j + 1))
              case measure => have := HJ.out; omega
              case rel => exact ⟨j + 1, m, x, by go_num, rfl, rfl, ⟨rfl, by omega, hm1, hm2⟩, HD2⟩
            · have hb1 := (HG.out rfl).1
              have hb2 := (HG.out rfl).2
              go_wp2
              go_roundg (ws.length - (j + 1))
              case measure => have := HJ.out; omega
              case rel => exact ⟨j + 1, word.length, _, by go_num, rfl, rfl, ⟨rfl, by omega, by omega, by omega⟩, HD2⟩
            -- >
        · obtain rfl : j = ws.length := by omega
          clear hcl
          have HS := Aside0.mk (HT.out.drawn0 HD.out)
          have HB3 := Aside0.mk (HB.out.trans (HD.out.below.mono HB.out.size))
          have HCL2 := Aside0.mk (Kd.C_below HCL.out HD.out.below)
          clear HD HB HCL HT hc1
          go_upto_region 16 with (fail)
          obtain ⟨r, hr, hr12⟩ := lzwWidth_any known
          have HC35 := Aside0.mk (fun w => spec_lzwWidth.calls 4 known 8 r w hr)
          have hcw : wr.cell? ⟨W.heap.size + 1, 0, none⟩ = some (.pointer (some ⟨W.heap.size, 0, none⟩)) := (blk_cell HS.out.hw 0).trans rfl
          have hck : wr.cell? ⟨W.heap.size + 1 + 1, 0, none⟩ = some (.int .i64 known) := (blk_cell HS.out.hk 0).trans rfl
          have HSD : Aside0 (Cst W.heap.size W.heap.size (W.heap.size + 1) (W.heap.size + 1 + 1) (W.heap.size + 1 + 1 + 1 + 1) (W.heap.size + 1 + 1 + 1 + 1 + 1) wr.drew n known count (.slice AL ws.length cL) ws) := ⟨HS.out.drawn0 ⟨⟨1, rfl⟩⟩⟩
          have HBD := Aside0.mk HB3.out.drew
          clear hr
          go_cut [12] from 22 to 105 (fun v12 wx => v12 = .int .i64 m ∧ Aside0 (Cst W.heap.size W.heap.size (W.heap.size + 1) (W.heap.size + 1 + 1) (W.heap.size + 1 + 1 + 1 + 1) (W.heap.size + 1 + 1 + 1 + 1 + 1) wx (n + r) known count (.slice AL ws.length cL) ws) ∧ Aside0 (Below W.heap.size W wx))
          case first =>
            -- <
            go_region_with (first | (go_at_call 35; refine (HC35.out _).mono ?_; rintro e w3 ⟨rfl, k1⟩; have K1 := Aside0.mk (HSD.out.drawn0 k1); have T1 := Aside0.mk (HBD.out.trans (k1.below.mono HBD.out.size)); have c3 : w3.cell? ⟨W.heap.size + 1, 0, none⟩ = some (.pointer (some ⟨W.heap.size, 0, none⟩)) := (blk_cell K1.out.hw 0).trans rfl; clear k1) | (go_at_call 34; refine (K1.out.put D _ r (by omega) (by omega)).mono ?_; rintro e w4 ⟨rfl, k1, k2⟩; have K2 := Aside0.mk k1; have T2 := Aside0.mk (Turn.below T1.out T1.out.size k2 (fun k h => h)); clear k1 k2 K1 T1 c3))
            all_goals (go_wp2_with (fail); go_meet; exact ⟨rfl, K2, T2⟩)
            -- >
          case rest =>
            obtain ⟨rfl, HS, HB⟩ := hcut
            clear HSD HBD HB3 hcw hck HC35
            have cc : wc.cell? ⟨W.heap.size + 1 + 1 + 1 + 1 + 1, 0, none⟩ = some (.int .i64 count) := (blk_cell HS.out.hc 0).trans rfl
            have ck : wc.cell? ⟨W.heap.size + 1 + 1, 0, none⟩ = some (.int .i64 known) := (blk_cell HS.out.hk 0).trans rfl
            have fk : wc.frozen? ⟨W.heap.size + 1 + 1, 0, none⟩ = false := blk_frozen HS.out.hk 0
            go_upto_if 68 with (fail)
            obtain ⟨wb, rfl⟩ : ∃ wb : World, wb = wc := ⟨_, rfl⟩
            go_cut [12] from 22 to 105 (fun v12 wx => v12 = .int .i64 m ∧ ∃ known, Aside0 (Cst W.heap.size W.heap.size (W.heap.size + 1) (W.heap.size + 1 + 1) (W.heap.size + 1 + 1 + 1 + 1) (W.heap.size + 1 + 1 + 1 + 1 + 1) wx (n + r) known count (.slice AL ws.length cL) ws) ∧ Aside0 (Below W.heap.size W wx))
            case first =>
              -- <
              go_wp2_with (fail)
              · go_meet
                exact ⟨rfl, _, ⟨HS.out.setKnown D _⟩, ⟨HB.out.setCell (p := ⟨W.heap.size + 1 + 1, 0, none⟩) (by show W.heap.size ≤ W.heap.size + 1 + 1; omega) _⟩⟩
              · go_meet
                exact ⟨rfl, _, HS, HB⟩
              -- >
            case rest =>
              clear cc ck fk HS HB
              obtain ⟨rfl, known, HS, HB⟩ := hcut
              obtain ⟨L, hL⟩ := HS.out.open_
              have HL := Aside0.mk hL
              clear hL
              obtain ⟨hcut19, hct19⟩ := take_u8 (some ad) c' (xs.length - i) (xs.drop i) m HDLi.out hm2 hic
              obtain ⟨A3, hcut20, hct20⟩ := drop_u8 (some ad) c' (xs.length - i) (xs.drop i) m HDLi.out hm2 hic
              have HC19 : Aside0 (Kd.C (Kd.int .u8) (wc.alloc (.cells #[] 5)) (some ad) m ((xs.drop i).take m)) := ⟨hct19 _ (Kd.C_below (Kd.C_below HC.out HB.out) ((Below.refl _ _).alloc (Nat.le_refl _) _))⟩
              have HC20 : Aside0 (Kd.C (Kd.int .u8) W A3 (xs.length - i - m) (xs.drop (i + m))) := ⟨by have := hct20 _ HC.out; rwa [List.drop_drop] at this⟩
              have HR19 : Aside0 (Kd.R (Kd.int .u8) 5 (wc.alloc (.cells #[] 5)) wc.heap.size (fun _ => True) (.slice (some ⟨wc.heap.size, 0, none⟩) 0 0) []) := ⟨R_new wc wc.heap.size [] (Nat.le_refl _) (by simp)⟩
              have HB19 := Aside0.mk ((Below.refl wc.heap.size wc).alloc (Nat.le_refl _) (.cells #[] 5))
              clear hct19 hct20
              go_upto_if 83 with ((with_reducible refine gate_builtin (b := .append) (xs := #[.tmp 71, .tmp 74]) rfl ?_); at_builtin; go_loud (refine Kd.R_append_rows (Kd.int .u8) (w0 := wc) wc.heap.size rfl (.tmp 71) (.tmp 74) 26 5 (.int .u8 0) 1 rfl Tryd.underlying26 i5 rfl (by decide) (by omega) _ [] ((xs.drop i).take m) _ _ _ (fun _ => True) (fun _ => False) rfl rfl HR19.out HC19.out (fun _ _ h => h) (fun _ h => h.elim) (fun k hk => trivial) HB19.out HB19.out.size (by simp; omega) ?_); intro v10 w1' ho hb7 hg7 hat; have HO := Aside0.mk ho; have HB1 := Aside0.mk hb7; have HL1 := Aside0.mk (HL.out.below hb7); have cc1 : w1'.cell? ⟨W.heap.size + 1 + 1 + 1 + 1 + 1, 0, none⟩ = some (.int .i64 count) := (blk_cell HL1.out.hc 0).trans rfl; have fc1 : w1'.frozen? ⟨W.heap.size + 1 + 1 + 1 + 1 + 1, 0, none⟩ = false := blk_frozen HL1.out.hc 0; clear ho hb7 hg7 hat)
              have HL2 := Aside0.mk (HL1.out.setCount D (wrap64 (count + 1)))
              have HB2 : Aside0 (Below W.heap.size W (w1'.setCell ⟨W.heap.size + 1 + 1 + 1 + 1 + 1, 0, none⟩ (.int .i64 (wrap64 (count + 1))))) := ⟨(HB.out.trans (HB1.out.mono HB.out.size)).setCell (p := ⟨W.heap.size + 1 + 1 + 1 + 1 + 1, 0, none⟩) (by show W.heap.size ≤ W.heap.size + 1 + 1 + 1 + 1 + 1; omega) _⟩
              have ltc := Aside0.mk (blk_lt HL.out.hc)
              have HO2 : Aside0 (Kd.R (Kd.int .u8) 5 (w1'.setCell ⟨W.heap.size + 1 + 1 + 1 + 1 + 1, 0, none⟩ (.int .i64 (wrap64 (count + 1)))) wc.heap.size (fun _ => True) v10 ([] ++ (xs.drop i).take m)) :=
                ⟨Kd.R_mono (Kd.R_step (Kd.R_bound HO.out) (fun k hk _ => Below.heap_setCell w1' _ _ k (by have := ltc.out; have := hk.2.1; show k ≠ W.heap.size + 1 + 1 + 1 + 1 + 1; omega))) (fun _ _ => trivial)⟩
              have HF2 : Aside0 (∀ k, k < wc.heap.size → k ≠ W.heap.size + 1 + 1 + 1 + 1 + 1 → (w1'.setCell ⟨W.heap.size + 1 + 1 + 1 + 1 + 1, 0, none⟩ (.int .i64 (wrap64 (count + 1)))).heap[k]? = wc.heap[k]?) :=
                ⟨fun k hk hne => (Below.heap_setCell w1' _ _ k hne).trans (HB1.out.block k hk)⟩
              have HZ2 : Aside0 (wc.heap.size ≤ (w1'.setCell ⟨W.heap.size + 1 + 1 + 1 + 1 + 1, 0, none⟩ (.int .i64 (wrap64 (count + 1)))).heap.size) := ⟨by have := HB1.out.size; simpa [World.setCell] using this⟩
              clear HL1 HB1 HO cc1 fc1 hcut19 hcut20 HC19 HR19 HB19
              generalize w1'.setCell ⟨W.heap.size + 1 + 1 + 1 + 1 + 1, 0, none⟩ (.int .i64 (wrap64 (count + 1))) = w2 at *
              obtain ⟨wa, rfl⟩ : ∃ wa : World, wa = wc := ⟨_, rfl⟩
              go_cut [12] from 22 to 105 (fun v12 wx => v12 = .int .i64 m ∧ ∃ count v ws', Aside0 (ws'.length ≤ ws.length + 1) ∧ Aside0 (Cst W.heap.size W.heap.size (W.heap.size + 1) (W.heap.size + 1 + 1) (W.heap.size + 1 + 1 + 1 + 1) (W.heap.size + 1 + 1 + 1 + 1 + 1) wx (n + r) known count v ws') ∧ Aside0 (Below W.heap.size W wx))
              case first =>
                -- <
                by_cases hd : 0 < xs.length - i - m
                · have hdd : decide (0 < xs.length - i - m) = true := decide_eq_true hd
                  obtain ⟨ad3, hA3, hc3⟩ := Kd.at_int HC20.out 0 (by omega) (by omega)
                  subst hA3
                  have hc4 : w2.cell? ad3 = some (.int .u8 (rd (xs.drop (i + m)) 0)) := by have := (HB2.out.cell (World.block_lt_of_cell? W _ hc3)).trans hc3; simpa [Addr.add] using this
                  have hl4 : w2.cell? ⟨W.heap.size + 1 + 1 + 1 + 1, 0, none⟩ = some (.slice AL ws.length cL) := (blk_cell HL2.out.hl 0).trans rfl
                  go_upto_region 23 with (fail)
                  have HO3 : Aside0 (Kd.R (Kd.int .u8) 5 w2.drew wa.heap.size (fun _ => True) v10 ([] ++ (xs.drop i).take m)) := ⟨Kd.R_step HO2.out (fun _ _ _ => rfl)⟩
                  have HF3 : Aside0 (∀ k, k < wa.heap.size → k ≠ W.heap.size + 1 + 1 + 1 + 1 + 1 → w2.drew.heap[k]? = wa.heap[k]?) := ⟨HF2.out⟩
                  have HZ3 : Aside0 (wa.heap.size ≤ w2.drew.heap.size) := ⟨HZ2.out⟩
                  have HL3 : Aside0 (CstL L W.heap.size W.heap.size (W.heap.size + 1) (W.heap.size + 1 + 1) (W.heap.size + 1 + 1 + 1 + 1) (W.heap.size + 1 + 1 + 1 + 1 + 1) w2.drew (n + r) known (wrap64 (count + 1)) (.slice AL ws.length cL) ws) := ⟨HL2.out.below ⟨rfl, rfl, rfl, Nat.le_refl _, fun _ _ => rfl⟩⟩
                  have HB3' : Aside0 (Below W.heap.size W w2.drew) := ⟨HB2.out.drew⟩
                  have ltl := Aside0.mk (blk_lt HL.out.hl)
                  have hBN : W.heap.size ≤ wa.heap.size := HB.out.size
                  have adB : ad3.block < W.heap.size := by have := World.block_lt_of_cell? W _ hc3; rwa [add_block] at this
                  clear hc3
                  have AdB := Aside0.mk adB
                  have HBN := Aside0.mk hBN
                  clear adB hBN
                  refine start_ (n := 10) (S := fun w' => w'.cell? ⟨W.heap.size + 1 + 1 + 1 + 1, 0, none⟩ = some (.slice AL ws.length cL) ∧ w'.cell? ad3 = some (.int .u8 (rd (xs.drop (i + m)) 0))) (ds := [9]) #[false, false, false, false, false, false, false, false, false, false] (by kernel_rfl) rfl rfl ⟨hl4, hc4⟩ (fun hHeld => ?_)
                  generalize w2.drew = w3 at HO3 HF3 HZ3 HL3 HB3' hHeld ⊢
                  refine take_ (i := 0) (N := some 84) (v := ?_) (a' := ?_) #[true, false, false, false, false, false, false, false, false, false] rfl rfl (by kernel_rfl) (fun _ _ _ h => h) (Or.inl ⟨by rfl, ?_⟩) hHeld ?_ ?_
                  rotate_left
                  · rintro w' ⟨s0, s1⟩
                    go_simp
                    with_reducible rfl
                  rotate_left
                  · simp only [Act.put, List.setIfInBounds_toArray, List.set_cons_zero, List.set_cons_succ, i64_w, i32_w]
                    rfl
                  refine pure_ (i := 1) (N := some 85) (v := ?_) (a' := ?_) #[true, true, false, false, false, false, false, false, false, false] rfl rfl (by kernel_rfl) (fun _ _ _ h => h) (Or.inl ⟨by rfl, ?_⟩) ?_ ?_
                  rotate_left
                  · intro w'
                    go_simp
                    with_reducible rfl
                  rotate_left
                  · simp only [Act.put, List.setIfInBounds_toArray, List.set_cons_zero, List.set_cons_succ, i64_w, i32_w]
                    rfl
                  refine pure_ (i := 2) (N := some 86) (v := ?_) (a' := ?_) #[true, true, true, false, false, false, false, false, false, false] rfl rfl (by kernel_rfl) (fun _ _ _ h => h) (Or.inl ⟨by rfl, ?_⟩) ?_ ?_
                  rotate_left
                  · intro w'
                    go_simp
                    with_reducible rfl
                  rotate_left
                  · simp only [Act.put, List.setIfInBounds_toArray, List.set_cons_zero, List.set_cons_succ, i64_w, i32_w]
                    rfl
                  refine pure_ (i := 3) (N := some 87) (v := ?_) (a' := ?_) #[true, true, true, true, false, false, false, false, false, false] rfl rfl (by kernel_rfl) (fun _ _ _ h => h) (Or.inl ⟨by rfl, ?_⟩) ?_ ?_
                  rotate_left
                  · intro w'
                    go_simp
                    with_reducible rfl
                  rotate_left
                  · simp only [Act.put, List.setIfInBounds_toArray, List.set_cons_zero, List.set_cons_succ, i64_w, i32_w]
                    rfl
                  refine take_ (i := 4) (N := some 88) (v := ?_) (a' := ?_) #[true, true, true, true, true, false, false, false, false, false] rfl rfl (by kernel_rfl) (fun _ _ _ h => h) (Or.inl ⟨by rfl, ?_⟩) hHeld ?_ ?_
                  rotate_left
                  · rintro w' ⟨s0, s1⟩
                    go_simp
                    with_reducible rfl
                  rotate_left
                  · simp only [Act.put, List.setIfInBounds_toArray, List.set_cons_zero, List.set_cons_succ, i64_w, i32_w]
                    rfl
                  refine one_ (i := 5) (N := some 89) #[true, true, true, true, true, true, false, false, false, false] rfl rfl (by kernel_rfl) (by decide) (fun K hK => ?_)
                  refine value_ (w1 := ?_) (v := ?_) (by rfl) rfl ?_ ?_
                  rotate_left 2
                  · go_simp
                    constructor
                    · rfl
                    · rfl
                  refine hK.out _ _ ⟨cell_alloc hHeld.1 _, cell_alloc hHeld.2 _⟩ (fun hHeld2 => ?_)
                  clear hK K
                  refine norm_ (a' := ?_) ?_ ?_
                  rotate_left
                  · show Act.put _ (some 89) _ = _
                    simp only [Act.put, List.setIfInBounds_toArray, List.set_cons_zero, List.set_cons_succ, i64_w, i32_w]
                    rfl
                  refine one_ (i := 6) (N := some 90) #[true, true, true, true, true, true, true, false, false, false] rfl rfl (by kernel_rfl) (by decide) (fun K hK => ?_)
                  refine Kd.R_append_step (Kd.int .u8) (w0 := w3) wa.heap.size (by rfl) (.tmp 85) (.tmp 89) 26 5 (.int .u8 0) 1 rfl Tryd.underlying26 i5 rfl (by decide) (by omega) v10 ([] ++ (xs.drop i).take m) (rd (xs.drop (i + m)) 0) [.int .u8 (rd (xs.drop (i + m)) 0)] (fun _ => True) (fun _ => False) rfl rfl rfl (fun _ hk => hk.elim) (fun _ _ => trivial) HO3.out (Below.refl _ _) HZ3.out (by simp; omega) ?_
                  intro v90 w4 ho hb hg hat
                  have HO4 := Aside0.mk ho
                  have HB4 := Aside0.mk hb
                  clear ho hb hg hat HO3 hHeld2
                  refine hK.out _ _ ⟨(HB4.out.cell (show W.heap.size + 1 + 1 + 1 + 1 < wa.heap.size from ltl.out)).trans hHeld.1, (HB4.out.cell (Nat.lt_of_lt_of_le AdB.out HBN.out)).trans hHeld.2⟩ (fun hHeld4 => ?_)
                  clear hK K hHeld
                  refine norm_ (a' := ?_) ?_ ?_
                  rotate_left
                  · show Act.put _ (some 90) _ = _
                    simp only [Act.put, List.setIfInBounds_toArray, List.set_cons_zero, List.set_cons_succ, i64_w, i32_w]
                    rfl
                  obtain ⟨A90, c90, rfl, _, _⟩ := Kd.R_reads HO4.out
                  generalize ([] ++ (xs.drop i).take m) ++ [rd (xs.drop (i + m)) 0] = y90 at HO4 ⊢
                  generalize hl90 : y90.length = l90 at HO4 ⊢
                  have HL90 := Aside0.mk hl90
                  clear hl90
                  refine one_ (i := 7) (N := some 91) #[true, true, true, true, true, true, true, true, false, false] rfl rfl (by kernel_rfl) (by decide) (fun K hK => ?_)
                  refine value_ (w1 := ?_) (v := ?_) (by rfl) rfl ?_ ?_
                  rotate_left 2
                  · go_simp
                    constructor
                    · rfl
                    · rfl
                  refine hK.out _ _ ⟨cell_alloc hHeld4.1 _, cell_alloc hHeld4.2 _⟩ (fun hHeld5 => ?_)
                  clear hK K
                  refine norm_ (a' := ?_) ?_ ?_
                  rotate_left
                  · show Act.put _ (some 91) _ = _
                    simp only [Act.put, List.setIfInBounds_toArray, List.set_cons_zero, List.set_cons_succ, i64_w, i32_w]
                    rfl
                  have hN4 : ∀ k, L k → k < wa.heap.size := fun k hk => (HL.out.h3 k hk).1
                  have hRl : (Kd.slice 5 (Kd.int .u8)).R 26 w4 W.heap.size (fun k => L k ∨ wa.heap.size ≤ k) (.slice AL ws.length cL) ws :=
                    Kd.R_mono (Kd.R_step HL.out.h2 (fun k hk hlt => (HB4.out.block k hlt).trans (HF3.out k hlt (HL.out.h3 k hk).2.2.2.2.2))) (fun k hk => .inl hk)
                  have hM : (Kd.slice 5 (Kd.int .u8)).M w4 W.heap.size (fun k => wa.heap.size ≤ k) y90 [.slice A90 l90 c90] :=
                    ⟨_, rfl, Kd.R_lower (Kd.R_mono (Kd.R_bound HO4.out) (fun k hk => hk.2.1)) HBN.out⟩
                  have hokp : ∀ k, wa.heap.size ≤ k → (L k ∨ wa.heap.size ≤ k) ∧ some k ≠ (Value.slice AL ws.length cL).ownBlock := fun k hk => ⟨.inr hk, fun e => by have := hN4 k (HL.out.h2.1 k e.symm); omega⟩
                  have HRL := Aside0.mk hRl
                  have HM := Aside0.mk hM
                  have HOKP := Aside0.mk hokp
                  have HN4 := Aside0.mk hN4
                  have HZ4 : Aside0 (wa.heap.size ≤ w4.heap.size) := ⟨Nat.le_trans HZ3.out HB4.out.size⟩
                  clear hRl hM hokp hN4
                  refine one_ (i := 8) (N := some 92) #[true, true, true, true, true, true, true, true, true, false] rfl rfl (by kernel_rfl) (by decide) (fun K hK => ?_)
                  refine Kd.R_append_step (Kd.slice 5 (Kd.int .u8)) (w0 := w4) W.heap.size (by rfl) (.tmp 84) (.tmp 91) 48 26 (.slice none 0 0) 24 rfl Tryd.underlying48 i26 rfl (by decide) (by omega) (.slice AL ws.length cL) ws _ [.slice A90 l90 c90] (fun k => L k ∨ wa.heap.size ≤ k) (fun k => wa.heap.size ≤ k) rfl rfl HM.out HOKP.out (fun k hk => .inr (Nat.le_trans HZ4.out hk)) HRL.out (Below.refl _ _) (Nat.le_trans HBN.out HZ4.out) (by omega) ?_
                  intro v92 w5 ho hb hg hat
                  obtain ⟨A92, c92, rfl, _, _⟩ := Kd.R_reads ho
                  have HO5 := Aside0.mk ho
                  have HB5 := Aside0.mk hb
                  have hfar5 : ∀ k, k < wa.heap.size → ¬ L k → w5.heap[k]? = w4.heap[k]? := fun k hk hnL => hg.block k (Nat.lt_of_lt_of_le hk HZ4.out) (fun e => hnL (HL.out.h2.1 k e.symm))
                  have hgl5 : w5.heap[W.heap.size + 1 + 1 + 1 + 1]? = w4.heap[W.heap.size + 1 + 1 + 1 + 1]? := hfar5 _ ltl.out (fun h => (HL.out.h3 _ h).2.2.2.2.1 rfl)
                  have HF5 := Aside0.mk hfar5
                  have HZ5 : Aside0 (w4.heap.size ≤ w5.heap.size) := ⟨hg.size⟩
                  clear ho hb hg hat
                  refine hK.out _ _ ⟨(World.cell?_of_block (a := ⟨W.heap.size + 1 + 1 + 1 + 1, 0, none⟩) hgl5).trans hHeld4.1, (HB5.out.cell AdB.out).trans hHeld4.2⟩ (fun hHeld6 => ?_)
                  clear hK K hHeld5
                  refine norm_ (a' := ?_) ?_ ?_
                  rotate_left
                  · show Act.put _ (some 92) _ = _
                    simp only [Act.put, List.setIfInBounds_toArray, List.set_cons_zero, List.set_cons_succ, i64_w, i32_w]
                    rfl
                  have hl5 : w5.heap[W.heap.size + 1 + 1 + 1 + 1]? = some (.cells #[.slice AL ws.length cL] 48 (0, 0)) := hgl5.trans ((HB4.out.block _ ltl.out).trans ((HF3.out _ ltl.out (by omega)).trans HL.out.hl))
                  have c5 : w5.cell? ⟨W.heap.size + 1 + 1 + 1 + 1, 0, none⟩ = some (.slice AL ws.length cL) := (blk_cell hl5 0).trans rfl
                  have f5 : w5.frozen? ⟨W.heap.size + 1 + 1 + 1 + 1, 0, none⟩ = false := blk_frozen hl5 0
                  have HLL5 := Aside0.mk hl5
                  clear hl5 hfar5 hgl5 hHeld4 hHeld6
                  refine last_ (i := 9) (N := none) #[true, true, true, true, true, true, true, true, true, true] rfl rfl (by kernel_rfl) (by decide) (fun K hK => ?_)
                  refine skip_ (w1 := ?_) (by rfl) rfl ?_ ?_
                  rotate_left
                  · go_simp
                    rfl
                  refine hK.out _ _ ?_
                  clear hK K
                  refine done_ (by kernel_rfl) ?_
                  go_wp2_with (fail)
                  go_meet
                  obtain ⟨t1, t2⟩ := Turn.set HLL5.out 0 (.slice A92 (ws.length + 1) c92)
                  have e92 : (ws ++ [y90]).length = ws.length + 1 := by simp
                  have hsz6 : (w5.setCell ⟨W.heap.size + 1 + 1 + 1 + 1, 0, none⟩ (.slice A92 (ws.length + 1) c92)).heap.size = w5.heap.size := by simp [World.setCell]
                  refine ⟨rfl, _, _, ws ++ [y90], ⟨by rw [e92]; exact Nat.le_refl _⟩, ⟨HL.out.grown D (by rw [hsz6]; exact Nat.le_trans HZ4.out HZ5.out) (fun k hk hnL hne1 hne2 => (Below.heap_setCell w5 _ _ k hne1).trans ((HF5.out k hk hnL).trans ((HB4.out.block k hk).trans (HF3.out k hk hne2)))) t2 (t1.blk ((HF5.out _ (blk_lt HL.out.hc) (fun h => (HL.out.h3 _ h).2.2.2.2.2 rfl)).trans ((HB4.out.block _ (blk_lt HL.out.hc)).trans HL3.out.hc)) (by show ¬ (W.heap.size + 1 + 1 + 1 + 1 + 1 = W.heap.size + 1 + 1 + 1 + 1); omega)) ?_⟩, ⟨?_⟩⟩
                  · have h7 := HO5.out
                    rw [e92] at h7
                    exact t1.R h7 (fun k hk => by
                      rcases hk with hk | hk
                      · exact (HL.out.h3 k hk).2.2.2.2.1
                      · have := ltl.out; show k ≠ W.heap.size + 1 + 1 + 1 + 1; omega)
                  · exact ((HB3'.out.trans (HB4.out.mono HBN.out)).trans HB5.out).setCell (p := ⟨W.heap.size + 1 + 1 + 1 + 1, 0, none⟩) (by show W.heap.size ≤ W.heap.size + 1 + 1 + 1 + 1; omega) _
                · have hdd : decide (0 < xs.length - i - m) = false := decide_eq_false hd
                  go_wp2_with (fail)
                  go_meet
                  exact ⟨rfl, _, _, ws, ⟨by omega⟩, ⟨HL2.out.close⟩, HB2⟩
                -- >
              case rest =>
                clear HL HL2 HB2 HO2 HF2 HZ2 ltc HS HB
                obtain ⟨rfl, count, v, ws', HWS, HS, HB⟩ := hcut
                have cc : wc.cell? ⟨W.heap.size + 1 + 1 + 1 + 1 + 1, 0, none⟩ = some (.int .i64 count) := (blk_cell HS.out.hc 0).trans rfl
                have ck : wc.cell? ⟨W.heap.size + 1 + 1, 0, none⟩ = some (.int .i64 known) := (blk_cell HS.out.hk 0).trans rfl
                go_upto_region 24 with (fail)
                obtain ⟨wd, hwd⟩ : ∃ wd : World, wd = wc := ⟨_, rfl⟩
                subst hwd
                go_cut [103] from 22 to 105 (fun v wx => ∃ b : Bool, v = .bool b ∧ wd = wx)
                case first =>
                  by_cases h37 : (37 : Int) ≤ count
                  · have hd37 : decide ((37 : Int) ≤ count) = true := decide_eq_true h37
                    go_wp2_with (fail)
                    go_meet
                    exact ⟨_, rfl, rfl⟩
                  · have hd37 : decide ((37 : Int) ≤ count) = false := decide_eq_false h37
                    go_wp2_with (fail)
                    go_meet
                    exact ⟨_, rfl, rfl⟩
                case rest =>
                  obtain ⟨b, rfl, rfl⟩ := hcut
                  have he : xs.length - i - m = xs.length - (i + m) := Nat.sub_sub _ _ _
                  have HC21 : Aside0 (Kd.C (Kd.int .u8) W A3 (xs.length - (i + m)) (xs.drop (i + m))) := ⟨he ▸ HC20.out⟩
                  have HE := Aside0.mk he
                  have HC33 := Aside0.mk (clear_any _ _ _ _ _ _ _ _ _ _ _ _ HS.out D (by omega))
                  clear he cc ck
                  cases b
                  · go_wp2
                    go_roundg (xs.length - (i + m))
                    case measure => have := HK.out; omega
                    case rel => exact ⟨i + m, A3, c' - m, by rw [HE.out], ⟨rfl, by omega, by omega⟩, HC21, HB, ⟨_, _, _, _, _, by omega, by have := HWS.out; omega, HS.out⟩⟩
                  · go_wp2_with (go_at_call 33; refine HC33.out.mono ?_; rintro e w1 ⟨rfl, n1, v1, hn1, k1, k2⟩; have K1 := Aside0.mk k1; have B1 : Aside0 (Below W.heap.size W w1) := ⟨Turn.below HB.out HB.out.size k2 (fun k h => h)⟩; clear k1 k2)
                    go_roundg (xs.length - (i + m))
                    case measure => have := HK.out; omega
                    case rel => exact ⟨i + m, A3, c' - m, by rw [HE.out], ⟨rfl, by omega, by omega⟩, HC21, B1, ⟨_, _, _, _, _, by omega, by simp, K1.out⟩⟩
    · obtain rfl : i = xs.length := by omega
      obtain ⟨r, hr, hr12⟩ := lzwWidth_any known
      have HC35 := Aside0.mk (fun w => spec_lzwWidth.calls 4 known 8 r w hr)
      have hcw : wr.cell? ⟨W.heap.size + 1, 0, none⟩ = some (.pointer (some ⟨W.heap.size, 0, none⟩)) := (blk_cell HT.out.hw 0).trans rfl
      have hck : wr.cell? ⟨W.heap.size + 1 + 1, 0, none⟩ = some (.int .i64 known) := (blk_cell HT.out.hk 0).trans rfl
      have HSD : Aside0 (Cst W.heap.size W.heap.size (W.heap.size + 1) (W.heap.size + 1 + 1) (W.heap.size + 1 + 1 + 1 + 1) (W.heap.size + 1 + 1 + 1 + 1 + 1) wr.drew n known count v ws) := ⟨HT.out.drawn0 ⟨⟨1, rfl⟩⟩⟩
      have HBD := Aside0.mk HB.out.drew
      have h24 : decide (0 < xs.length - xs.length) = false := decide_eq_false (by omega)
      clear hr
      go_upto_region 26 with (fail)
      go_cut [0, 4] from 22 to 109 (fun v0 v4 wx => v4 = .slice none 0 0 ∧ Aside0 (Cst W.heap.size W.heap.size (W.heap.size + 1) (W.heap.size + 1 + 1) (W.heap.size + 1 + 1 + 1 + 1) (W.heap.size + 1 + 1 + 1 + 1 + 1) wx (n + r) known count v ws) ∧ Aside0 (Below W.heap.size W wx))
      case first =>
        -- <
        go_region_with (first | (go_at_call 35; refine (HC35.out _).mono ?_; rintro e w3 ⟨rfl, k1⟩; have K1 := Aside0.mk (HSD.out.drawn0 k1); have T1 := Aside0.mk (HBD.out.trans (k1.below.mono HBD.out.size)); have c3 : w3.cell? ⟨W.heap.size + 1, 0, none⟩ = some (.pointer (some ⟨W.heap.size, 0, none⟩)) := (blk_cell K1.out.hw 0).trans rfl; clear k1) | (go_at_call 34; refine (K1.out.put D _ r (by omega) (by omega)).mono ?_; rintro e w4 ⟨rfl, k1, k2⟩; have K2 := Aside0.mk k1; have T2 := Aside0.mk (Turn.below T1.out T1.out.size k2 (fun k h => h)); clear k1 k2 K1 T1 c3))
        all_goals (go_wp2_with (fail); go_meet; exact ⟨rfl, K2, T2⟩)
        -- >
      case rest =>
        obtain ⟨rfl, HS, HB2⟩ := hcut
        obtain ⟨L, hL⟩ := HS.out.open_
        obtain ⟨v5, bs5, hb5, hr5, hl5⟩ := hL.h1
        obtain ⟨A5, c5, rfl, hc5, hC5⟩ := Kd.R_reads hr5
        have d0 : wc.cell? ⟨W.heap.size, 0, none⟩ = some (.slice A5 bs5.length c5) := (blk_cell hb5 0).trans rfl
        have d1 : wc.cell? ⟨W.heap.size + 1, 0, none⟩ = some (.pointer (some ⟨W.heap.size, 0, none⟩)) := (blk_cell hL.hw 0).trans rfl
        have HR5 := Aside0.mk (Kd.R_mono hr5 (fun _ _ => trivial))
        have HL5 := Aside0.mk hl5
        clear hb5 hr5 hC5 hl5 hL hcw hck
        go_wp2
        go_ret
        exact ⟨_, bs5, rfl, HR5.out, by have := HL5.out; omega, HB2.out⟩
end Go.Proofs.YtnodmobblamlgaaDoor
