/- The writer of words with the highest bit first: how many bits it holds; nothing else is told. -/
import Derived.Test.YtnodmobblamlgaaDoorEBitsD
namespace Go.Proofs.YtnodmobblamlgaaDoor
open Go.RowKit Go.Proofs.YtnodmobblamlgaaDoor.PFnConfig Go.Proofs.YtnodmobblamlgaaDoorW.PrintWords Go.Proofs.YtnodmobblamlgaaDoorW.PrintLast Go.Proofs.YtnodmobblamlgaaDoorW.PrintMore
set_option linter.unusedVariables false
set_option linter.unusedSimpArgs false

theorem and7 (n : Nat) (h : n ≤ 1000000000) : bits .and .i64 (n : Int) 7 = (n : Int) % 8 := by
  have h1 : (BitVec.ofInt 64 (n : Int)).toNat = n := by
    rw [BitVec.ofInt_natCast, BitVec.toNat_ofNat]; exact Nat.mod_eq_of_lt (by omega)
  have h3 : n &&& 7 = n % 8 := Nat.and_two_pow_sub_one_eq_mod n 3
  show IntKind.i64.wrap ((BitVec.ofInt 64 (n : Int) &&& BitVec.ofInt 64 7).toNat : Int) = _
  rw [BitVec.toNat_and, h1, show (BitVec.ofInt 64 7).toNat = 7 from rfl, h3]
  simp [IntKind.wrap, IntKind.signed, IntKind.bits]
  omega

def Mmid (B : Nat) (ok : Nat → Prop) (W W' : World) (g n : Nat) : Prop :=
  Turn (fun k => k = g ∨ (ok k ∧ B ≤ k)) W W' ∧ ∃ v bs, W'.heap[g]? = some (.cells #[v, .int .i64 n] 105 (0, 0)) ∧ Kd.R (Kd.int .u8) 5 W' B (fun k => ok k ∧ k ≠ g) v bs ∧ bs.length = n / 8 + 1

set_option maxHeartbeats 1600000 in
set_option maxRecDepth 100000 in
theorem putMost_any (B : Nat) (ok : Nat → Prop) (g n0 : Nat) (v : Int) (m : Nat) (W : World) (h : Wst 105 B ok W g n0) (hB : B ≤ W.heap.size) (hf : ∀ k, W.heap.size ≤ k → ok k) (hn : n0 ≤ 900000000) (hm : m ≤ 64) :
    Calls Tryd.prog 34 #[.pointer (some ⟨g, 0, none⟩), .int .i64 v, .int .i64 m] W (fun e w' => e = .returned (.tuple #[]) ∧ Wst 105 B ok w' g (n0 + m) ∧ Turn (fun k => k = g ∨ (ok k ∧ B ≤ k)) W w') := by
  have HW := Aside0.mk h
  have HF0 := Aside0.mk hf
  clear h hf
  go_enter Tryd.func34, Tryd.ntmps34
  go_wp2
  go_loopg [6] m (fun kq v6 wr => ∃ (k : Nat), v6 = .int .i64 ((k : Int) - 1) ∧ Aside0 (k ≤ m ∧ kq = k) ∧ Aside0 (Wst 105 B ok wr g (n0 + (m - k)) ∧ Turn (fun k => k = g ∨ (ok k ∧ B ≤ k)) W wr))
  case atStart => exact ⟨m, rfl, ⟨Nat.le_refl _, rfl⟩, ⟨by simpa using HW.out, Turn.refl _ _⟩⟩
  case round =>
    obtain ⟨k, rfl, HK, HX⟩ := hrel
    have hkm := HK.out.1
    rcases Nat.lt_or_ge 0 k with hk | hk
    · obtain ⟨n, hn1⟩ : ∃ n, n = n0 + (m - k) := ⟨_, rfl⟩
      have HN := Aside0.mk hn1
      have hst := HX.out.1
      rw [← hn1] at hst
      have hnb : n ≤ 900000064 := by omega
      clear hn1
      have HT0 := Aside0.mk HX.out.2
      have hB1 : B ≤ wr.heap.size := Nat.le_trans hB HT0.out.size
      have HF := Aside0.mk (fresh_turn (B := B) HF0.out HT0.out)
      obtain ⟨vv, bs, hb, hR, hl⟩ := hst
      obtain ⟨A, c, rfl, hAc, hC⟩ := Kd.R_reads hR
      have HB := Aside0.mk hb
      have HR := Aside0.mk hR
      have HL := Aside0.mk hl
      have c0 : wr.cell? ⟨g, 0, none⟩ = some (.slice A bs.length c) := (blk_cell hb 0).trans rfl
      have c1 : wr.cell? ⟨g, 1, none⟩ = some (.int .i64 n) := (blk_cell hb 1).trans rfl
      have f0 : wr.frozen? ⟨g, 0, none⟩ = false := blk_frozen HB.out 0
      have f1 : wr.frozen? ⟨g, 1, none⟩ = false := blk_frozen HB.out 1
      have hfr : ∀ k, wr.heap.size ≤ k → ok k ∧ k ≠ g := fun k hk => ⟨HF.out k hk, by have := blk_lt HB.out; omega⟩
      have HFR := Aside0.mk hfr
      have mid0 : n % 8 ≠ 0 → Mmid B ok wr wr g n := fun h => ⟨Turn.refl _ _, _, _, HB.out, HR.out, by have := HL.out; omega⟩
      have MID0 := Aside0.mk mid0
      clear mid0 hfr hb hR hl hC hAc HX
      have hand := and7 n (by omega)
      go_upto_if 18 with (fail)
      go_cut [0] from 9 to 59 (fun p wx => p = .pointer (some ⟨g, 0, none⟩) ∧ Aside0 (Mmid B ok wr wx g n))
      case first =>
        go_wp2_with ((with_reducible refine gate_builtin (b := .append) (xs := #[.tmp 23, .tmp 24]) rfl ?_); at_builtin; go_loud (refine Kd.R_append (Kd.int .u8) (w0 := wr) B rfl (.tmp 23) (.tmp 24) 26 5 (.int .u8 0) 1 rfl Tryd.underlying26 i5 rfl (by decide) (by omega) _ bs 0 [.int .u8 0] (fun k => ok k ∧ k ≠ g) (fun _ => False) rfl rfl rfl (fun _ hk => hk.elim) HFR.out HR.out (Below.refl _ _) hB1 (by have := HL.out; omega) ?_); intro v1 w1 ho hb1 hg1 hat; obtain ⟨A1, k1, rfl, hk1, hC1⟩ := Kd.R_reads ho; have b1 := Aside0.mk ((hg1.block g (blk_lt HB.out) (fun e => (HR.out.1 g e.symm).2 rfl)).trans HB.out); have f10 : w1.frozen? ⟨g, 0, none⟩ = false := blk_frozen b1.out 0; have c10 : w1.cell? ⟨g, 0, none⟩ = some (.slice A bs.length c) := (blk_cell b1.out 0).trans rfl; have HO := Aside0.mk ho; have HG := Aside0.mk hg1; have HK1 := Aside0.mk hk1; have HC1 := Aside0.mk hC1; clear ho hb1 hg1 hat hk1 hC1)
        · rename_i h8
          go_meet
          refine ⟨rfl, ⟨?_⟩⟩
          have h8' : n % 8 = 0 := by
            have := h8
            simp at this
            omega
          have T1 : Turn (fun k => k = g ∨ (ok k ∧ B ≤ k)) wr w1 := (Turn.refl _ _).grown HG.out (fun k hk => .inl (.inr ⟨(HR.out.1 k hk).1, own_base (Kd.own_of_R HR.out) k hk⟩))
          obtain ⟨t1, t2⟩ := Turn.set b1.out 0 (.slice A1 (bs.length + 1) k1)
          have e1 : (bs ++ [0]).length = bs.length + 1 := by simp
          refine ⟨T1.setCell (p := ⟨g, 0, none⟩) (.inl (.inl rfl)) _, _, bs ++ [0], t2, ?_, by have := HL.out; rw [e1]; omega⟩
          have h3 := t1.R HO.out (fun k hk => hk.2)
          rw [e1] at h3
          exact h3
        · rename_i h8
          go_meet
          refine ⟨rfl, ⟨MID0.out ?_⟩⟩
          intro h
          simp at h8
          omega
      case rest =>
        obtain ⟨rfl, hM⟩ := hcut
        obtain ⟨T2, v2, bs2, hb2, hR2, hl2⟩ := hM.out
        clear hM
        obtain ⟨q, cap, rfl, hq, hok, hlt, hcell, hfrz, hset⟩ := R_open hR2 (by omega)
        have d0 : wc.cell? ⟨g, 0, none⟩ = some (.slice (some ⟨q, 0, none⟩) bs2.length cap) := (blk_cell hb2 0).trans rfl
        have d1 : wc.cell? ⟨g, 1, none⟩ = some (.int .i64 n) := (blk_cell hb2 1).trans rfl
        have d2 := hcell (n / 8) (by omega)
        have e2 := hfrz (n / 8)
        have e1 : wc.frozen? ⟨g, 1, none⟩ = false := blk_frozen hb2 1
        have hx0 : (0 : Int) ≤ (n : Int) / 8 := by omega
        have hx1 : (n : Int) / 8 < (bs2.length : Int) := by omega
        have hx2 : ((n : Int) / 8).toNat = n / 8 := by omega
        have hi : n / 8 < bs2.length := by omega
        have hk1 : (k : Int) - 1 ≤ 64 := by omega
        have hk0 : (0 : Int) ≤ (k : Int) - 1 := by omega
        have hs0 : (0 : Int) ≤ 7 - (n : Int) % 8 := by omega
        have hs1 : 7 - (n : Int) % 8 ≤ 8 := by omega
        have hsw : IntKind.i64.wrap (7 - (n : Int) % 8) = 7 - (n : Int) % 8 := by simp [IntKind.wrap, IntKind.signed, IntKind.bits]; omega
        have T2' := Aside0.mk T2
        have HB2 := Aside0.mk hb2
        have HR2 := Aside0.mk hR2
        have HL2 := Aside0.mk hl2
        have HOK := Aside0.mk hok
        clear T2 hb2 hR2 hl2 hcell hfrz hset hok f0 f1 c0 c1
        go_upto_region 5 with (fail)
        go_still_tail 25, (by kernel_rfl)
        change wpList _ _ _ _ _ wc.drew
        have T3 := Aside0.mk T2'.out.drew
        have HB3 : Aside0 (wc.drew.heap[g]? = _) := ⟨HB2.out⟩
        have HR3 : Aside0 ((Kd.int .u8).R 5 wc.drew B (fun k => ok k ∧ k ≠ g) _ bs2) := ⟨Kd.R_step HR2.out (fun _ _ _ => rfl)⟩
        generalize wc.drew = w3 at *
        obtain ⟨q', cap', he, _, _, _, hcell, hfrz, hset⟩ := R_open HR3.out (by omega)
        obtain ⟨rfl, rfl⟩ : q = q' ∧ cap = cap' := by
          injection he with h1 h2 h3
          injection h1 with h1
          injection h1 with h1
          exact ⟨h1, h3⟩
        clear he
        generalize bits BinOp.or IntKind.u8 _ _ = x
        have hqg : q ≠ g := HOK.out.2
        have cq := hcell (n / 8) hi
        have fq := hfrz (n / 8)
        have HR4 := Aside0.mk (hset (n / 8) x hi)
        have HB4 : Aside0 ((w3.setCell ⟨q, n / 8, none⟩ (.int .u8 x)).heap[g]? = _) := ⟨(Below.heap_setCell w3 ⟨q, n / 8, none⟩ _ g (fun e => hqg e.symm)).trans HB3.out⟩
        have T4 : Aside0 (Turn (fun k => k = g ∨ (ok k ∧ B ≤ k)) wr (w3.setCell ⟨q, n / 8, none⟩ (.int .u8 x))) := ⟨T3.out.setCell (p := ⟨q, n / 8, none⟩) (.inl (.inr ⟨HOK.out.1, hq⟩)) _⟩
        have QG := Aside0.mk hqg
        clear hcell hfrz hset HR3 HB3 T3 HR2 HB2 T2' d0 d1 d2 e1 e2 hqg
        go_upto_region 6 with (fail)
        generalize w3.setCell ⟨q, n / 8, none⟩ (.int .u8 x) = w4 at *
        have d1 : w4.cell? ⟨g, 1, none⟩ = some (.int .i64 n) := (blk_cell HB4.out 1).trans rfl
        have e1 : w4.frozen? ⟨g, 1, none⟩ = false := blk_frozen HB4.out 1
        go_wp2
        go_roundg (k - 1)
        case measure => have := HK.out.2; omega
        case rel =>
          obtain ⟨t1, t2⟩ := Turn.set HB4.out 1 (.int .i64 ((n + 1 : Nat) : Int))
          refine ⟨k - 1, by go_num, ⟨by omega, rfl⟩, ⟨?_, HT0.out.trans (T4.out.setCell (p := ⟨g, 1, none⟩) (.inl (.inl rfl)) _) (fun k h => .inl h)⟩⟩
          rw [show n0 + (m - (k - 1)) = n + 1 by have := HN.out; omega]
          exact ⟨_, _, t2, t1.R HR4.out (fun k hk => hk.2), by have := HL2.out; rw [List.length_set]; omega⟩
    · obtain rfl : k = 0 := by omega
      go_wp2
      go_end0
      exact ⟨rfl, by simpa using HX.out.1, HX.out.2⟩
end Go.Proofs.YtnodmobblamlgaaDoor
/- The closure of Coded that clears; the state that it and Coded share. -/
namespace Go.Proofs.YtnodmobblamlgaaDoor
open Go.RowKit Go.Proofs.YtnodmobblamlgaaDoor.PFnConfig Go.Proofs.YtnodmobblamlgaaDoorW.PrintWords Go.Proofs.YtnodmobblamlgaaDoorW.PrintLast Go.Proofs.YtnodmobblamlgaaDoorW.PrintMore
set_option linter.unusedVariables false
set_option linter.unusedSimpArgs false

theorem lzwWidth_l (known : Int) : ∀ (m : Nat) (x : Int), 0 ≤ x → x + m = 12 → ∃ r : Nat, spec_lzwWidth.l0 (m + 1) known x = some (r : Int) ∧ r ≤ 12 := by
  intro m
  induction m with
  | zero =>
    intro x h0 h1
    unfold spec_lzwWidth.l0
    rw [if_pos h0]
    split
    · rw [if_neg (by omega)]
      exact ⟨x.toNat, by rw [show (x.toNat : Int) = x by omega], by omega⟩
    · exact ⟨x.toNat, by rw [show (x.toNat : Int) = x by omega], by omega⟩
  | succ m ih =>
    intro x h0 h1
    unfold spec_lzwWidth.l0
    rw [if_pos h0]
    split
    · rw [if_pos (by omega), w64s (x := x + 1) (by omega) (by omega)]
      exact ih (x + 1) (by omega) (by omega)
    · exact ⟨x.toNat, by rw [show (x.toNat : Int) = x by omega], by omega⟩
theorem lzwWidth_any (known : Int) : ∃ r : Nat, spec_lzwWidth.f 4 known 8 = some (r : Int) ∧ r ≤ 12 := by
  unfold spec_lzwWidth.f
  rw [w64s (x := 8 + 1) (by omega) (by omega)]
  exact lzwWidth_l known 3 9 (by omega) (by omega)

/-- The blocks that Coded's variables lie in. -/
structure Cbl (B g gw gk gl gc : Nat) : Prop where
  bw : B ≤ gw
  bg : B ≤ g
  bk : B ≤ gk
  bl : B ≤ gl
  bc : B ≤ gc
  d : g ≠ gw ∧ g ≠ gk ∧ g ≠ gl ∧ g ≠ gc ∧ gw ≠ gk ∧ gw ≠ gl ∧ gw ≠ gc ∧ gk ≠ gl ∧ gk ≠ gc ∧ gl ≠ gc

/-- The state of Coded: n bits are put; so many codes are known, so many were put since it cleared last. -/
structure Cst (B g gw gk gl gc : Nat) (w : World) (n : Nat) (known count : Int) (v : Value) (ws : List (List Int)) : Prop where
  L : ∃ L : Nat → Prop, Wst 105 B (fun k => ¬ L k ∧ k ≠ gw ∧ k ≠ gk ∧ k ≠ gl ∧ k ≠ gc) w g n ∧ (Kd.slice 5 (Kd.int .u8)).R 26 w B L v ws ∧ ∀ k, L k → k < w.heap.size ∧ k ≠ g ∧ k ≠ gw ∧ k ≠ gk ∧ k ≠ gl ∧ k ≠ gc
  hw : w.heap[gw]? = some (.cells #[.pointer (some ⟨g, 0, none⟩)] 103 (0, 0))
  hk : w.heap[gk]? = some (.cells #[.int .i64 known] 3 (0, 0))
  hl : w.heap[gl]? = some (.cells #[v] 48 (0, 0))
  hc : w.heap[gc]? = some (.cells #[.int .i64 count] 3 (0, 0))
  size : B ≤ w.heap.size

namespace Cst
variable {B g gw gk gl gc n : Nat} {w : World} {known count : Int} {v : Value} {ws : List (List Int)}
theorem put (h : Cst B g gw gk gl gc w n known count v ws) (D : Cbl B g gw gk gl gc) (x : Int) (m : Nat) (hm : m ≤ 64) (hn : n ≤ 900000000) :
    Calls Tryd.prog 34 #[.pointer (some ⟨g, 0, none⟩), .int .i64 x, .int .i64 m] w (fun e w' => e = .returned (.tuple #[]) ∧ Cst B g gw gk gl gc w' (n + m) known count v ws ∧ Turn (fun k => B ≤ k) w w') := by
  obtain ⟨⟨L, h1, h2, h3⟩, hw, hk, hl, hc, hs⟩ := h
  refine (putMost_any B _ g n x m w h1 hs (fun k hk' => ⟨fun hL => by have := (h3 k hL).1; omega, ?_, ?_, ?_, ?_⟩) hn hm).mono ?_
  · have := blk_lt hw; omega
  · have := blk_lt hk; omega
  · have := blk_lt hl; omega
  · have := blk_lt hc; omega
  · rintro e w' ⟨rfl, k1, k2⟩
    obtain ⟨d1, d2, d3, d4, d5, d6, d7, d8, d9, d10⟩ := D.d
    have bg := D.bg
    refine ⟨rfl, ⟨⟨L, k1, k2.R h2 (fun k hk' => ?_), fun k hL => ⟨Nat.lt_of_lt_of_le (h3 k hL).1 k2.size, (h3 k hL).2⟩⟩, k2.blk hw ?_, k2.blk hk ?_, k2.blk hl ?_, k2.blk hc ?_, Nat.le_trans hs k2.size⟩, k2.mono (fun k hk' => ?_)⟩
    · rintro (rfl | ⟨h, _⟩)
      · exact (h3 _ hk').2.1 rfl
      · exact h.1 hk'
    · rintro (rfl | ⟨h, _⟩) <;> simp_all
    · rintro (rfl | ⟨h, _⟩) <;> simp_all
    · rintro (rfl | ⟨h, _⟩) <;> simp_all
    · rintro (rfl | ⟨h, _⟩) <;> simp_all
    · rcases hk' with rfl | ⟨_, h⟩
      · exact bg
      · exact h
theorem drawn0 {w' : World} (h : Cst B g gw gk gl gc w n known count v ws) (k : Drawn0 w w') : Cst B g gw gk gl gc w' n known count v ws := by
  obtain ⟨m, rfl⟩ := k.out
  obtain ⟨⟨L, h1, h2, h3⟩, hw, hk, hl, hc, hs⟩ := h
  exact ⟨⟨L, h1.drawn0 ⟨⟨m, rfl⟩⟩, Kd.R_step h2 (fun _ _ _ => rfl), h3⟩, hw, hk, hl, hc, hs⟩
end Cst

theorem Wst.far {t : TypeId} {B : Nat} {ok : Nat → Prop} {w w' : World} {g n : Nat} (h : Wst t B ok w g n) (hg : w'.heap[g]? = w.heap[g]?) (hm : ∀ k, ok k → k < w.heap.size → w'.heap[k]? = w.heap[k]?) : Wst t B ok w' g n := by
  obtain ⟨v, bs, h1, h2, h3⟩ := h
  exact ⟨v, bs, hg.trans h1, Kd.R_step h2 (fun k hk hlt => hm k hk.1 hlt), h3⟩
namespace Cst
variable {B g gw gk gl gc n : Nat} {w : World} {known count : Int} {v : Value} {ws : List (List Int)}
theorem setKnown (h : Cst B g gw gk gl gc w n known count v ws) (D : Cbl B g gw gk gl gc) (x : Int) : Cst B g gw gk gl gc (w.setCell ⟨gk, 0, none⟩ (.int .i64 x)) n x count v ws := by
  obtain ⟨⟨L, h1, h2, h3⟩, hw, hk, hl, hc, hs⟩ := h
  obtain ⟨d1, d2, d3, d4, d5, d6, d7, d8, d9, d10⟩ := D.d
  obtain ⟨t1, t2⟩ := Turn.set hk 0 (.int .i64 x)
  have sz : (w.setCell ⟨gk, 0, none⟩ (.int .i64 x)).heap.size = w.heap.size := by simp [World.setCell]
  refine ⟨⟨L, h1.far (Below.heap_setCell w _ _ g d2) (fun k hk' _ => Below.heap_setCell w _ _ k hk'.2.2.1), t1.R h2 (fun k hk' => (h3 k hk').2.2.2.1), fun k hk' => by rw [sz]; exact h3 k hk'⟩,
    t1.blk hw (fun e => d5 e), t2, t1.blk hl (fun e => d8 e.symm), t1.blk hc (fun e => d9 e.symm), by rw [sz]; exact hs⟩
theorem setCount (h : Cst B g gw gk gl gc w n known count v ws) (D : Cbl B g gw gk gl gc) (x : Int) : Cst B g gw gk gl gc (w.setCell ⟨gc, 0, none⟩ (.int .i64 x)) n known x v ws := by
  obtain ⟨⟨L, h1, h2, h3⟩, hw, hk, hl, hc, hs⟩ := h
  obtain ⟨d1, d2, d3, d4, d5, d6, d7, d8, d9, d10⟩ := D.d
  obtain ⟨t1, t2⟩ := Turn.set hc 0 (.int .i64 x)
  have sz : (w.setCell ⟨gc, 0, none⟩ (.int .i64 x)).heap.size = w.heap.size := by simp [World.setCell]
  refine ⟨⟨L, h1.far (Below.heap_setCell w _ _ g d4) (fun k hk' _ => Below.heap_setCell w _ _ k hk'.2.2.2.2), t1.R h2 (fun k hk' => (h3 k hk').2.2.2.2.2), fun k hk' => by rw [sz]; exact h3 k hk'⟩,
    t1.blk hw (fun e => d7 e), t1.blk hk (fun e => d9 e), t1.blk hl (fun e => d10 e), t2, by rw [sz]; exact hs⟩
theorem emptyList (h : Cst B g gw gk gl gc w n known count v ws) (D : Cbl B g gw gk gl gc) :
    Cst B g gw gk gl gc ((w.alloc (.cells #[] 26)).setCell ⟨gl, 0, none⟩ (.slice (some ⟨w.heap.size, 0, none⟩) 0 0)) n known count (.slice (some ⟨w.heap.size, 0, none⟩) 0 0) [] := by
  obtain ⟨⟨L, h1, h2, h3⟩, hw, hk, hl, hc, hs⟩ := h
  obtain ⟨d1, d2, d3, d4, d5, d6, d7, d8, d9, d10⟩ := D.d
  have lw := blk_lt hw
  have lk := blk_lt hk
  have ll := blk_lt hl
  have lc := blk_lt hc
  have hfar : ∀ k, k ≠ gl → k < w.heap.size → ((w.alloc (.cells #[] 26)).setCell ⟨gl, 0, none⟩ (.slice (some ⟨w.heap.size, 0, none⟩) 0 0)).heap[k]? = w.heap[k]? := fun k hk hlt =>
    (Below.heap_setCell _ ⟨gl, 0, none⟩ _ k hk).trans (Below.heap_alloc w _ k hlt)
  have sz : ((w.alloc (.cells #[] 26)).setCell ⟨gl, 0, none⟩ (.slice (some ⟨w.heap.size, 0, none⟩) 0 0)).heap.size = w.heap.size + 1 := by simp [World.setCell]
  obtain ⟨t1, t2⟩ := Turn.set (blk_alloc hl (.cells #[] 26)) 0 (.slice (some ⟨w.heap.size, 0, none⟩) 0 0)
  obtain ⟨vv, bs, e1, e2, e3⟩ := h1
  have lg := blk_lt e1
  refine ⟨⟨fun k => k = w.heap.size, ⟨vv, bs, (hfar g d3 lg).trans e1, ?_, e3⟩, ?_, fun k hk => by rw [sz]; subst hk; omega⟩, (hfar gw d6 lw).trans hw, (hfar gk d8 lk).trans hk, t2, (hfar gc (fun e => d10 e.symm) lc).trans hc, by rw [sz]; omega⟩
  · have h4 := Kd.R_mono (Kd.R_bound e2) (ok' := fun k => (¬ k = w.heap.size ∧ k ≠ gw ∧ k ≠ gk ∧ k ≠ gl ∧ k ≠ gc) ∧ k ≠ g) (fun k hk => ⟨⟨by have := hk.2.2.1; omega, hk.1.1.2⟩, hk.1.2⟩)
    exact Kd.R_step h4 (fun k hk hlt => hfar k hk.1.2.2.2.1 hlt)
  · have h5 := World.ownsRow_lit (base := B) (e := 26) (size := 1) w #[] 0 hs (by simp [maxLen]) (by simp)
    have h6 : (Kd.slice 5 (Kd.int .u8)).R 26 (w.alloc (.cells #[] 26)) B (fun k => k = w.heap.size) (.slice (some ⟨w.heap.size, 0, none⟩) 0 0) [] :=
      ⟨fun k hk => by simpa [Value.ownBlock, eq_comm] using hk, [], h5, Reps.none _ _⟩
    exact Kd.R_step h6 (fun k hk _ => Below.heap_setCell _ ⟨gl, 0, none⟩ _ k (by rw [hk]; show w.heap.size ≠ gl; omega))
end Cst

set_option maxHeartbeats 1600000 in
theorem clear_any (B g gw gk gl gc n : Nat) (known count : Int) (v : Value) (ws : List (List Int)) (W : World) (h : Cst B g gw gk gl gc W n known count v ws) (D : Cbl B g gw gk gl gc) (hn : n ≤ 900000000) :
    Calls Tryd.prog 33 #[.pointer (some ⟨gw, 0, none⟩), .pointer (some ⟨gk, 0, none⟩), .pointer (some ⟨gc, 0, none⟩), .pointer (some ⟨gl, 0, none⟩)] W
      (fun e w' => e = .returned (.tuple #[]) ∧ ∃ n' v', n' ≤ n + 12 ∧ Cst B g gw gk gl gc w' n' 258 0 v' [] ∧ Turn (fun k => B ≤ k) W w') := by
  have HS := Aside0.mk h
  obtain ⟨r, hr, hr12⟩ := lzwWidth_any known
  have HC := Aside0.mk (fun w => spec_lzwWidth.calls 4 known 8 r w hr)
  have hcw : W.cell? ⟨gw, 0, none⟩ = some (.pointer (some ⟨g, 0, none⟩)) := (blk_cell h.hw 0).trans rfl
  have hck : W.cell? ⟨gk, 0, none⟩ = some (.int .i64 known) := (blk_cell h.hk 0).trans rfl
  have HSD : Aside0 (Cst B g gw gk gl gc W.drew n known count v ws) := ⟨h.drawn0 ⟨⟨1, rfl⟩⟩⟩
  have TD := Aside0.mk ((Turn.refl (fun k => B ≤ k) W).drew)
  clear h hr
  go_enter Tryd.func33, Tryd.ntmps33
  go_upto_region 0 with (fail)
  go_region_with (first | (go_at_call 35; refine (HC.out _).mono ?_; rintro e w3 ⟨rfl, k1⟩; have K1 := Aside0.mk (HSD.out.drawn0 k1); have T1 := Aside0.mk (TD.out.drawn0 k1); have c3 : w3.cell? ⟨gw, 0, none⟩ = some (.pointer (some ⟨g, 0, none⟩)) := (blk_cell K1.out.hw 0).trans rfl; clear k1) | (go_at_call 34; refine (K1.out.put D _ r (by omega) hn).mono ?_; rintro e w4 ⟨rfl, k1, k2⟩; have K2 := Aside0.mk k1; have T2 := Aside0.mk (T1.out.trans k2 (fun k h => .inl h)); clear k1 k2 K1 T1 c3))
  all_goals
    clear HS HC hcw hck HSD TD
    have KA := Aside0.mk (K2.out.setKnown D 258)
    have KB := Aside0.mk (KA.out.setCount D 0)
    have ck : w4.cell? ⟨gk, 0, none⟩ = some (.int .i64 known) := (blk_cell K2.out.hk 0).trans rfl
    have fk : w4.frozen? ⟨gk, 0, none⟩ = false := blk_frozen K2.out.hk 0
    have cc : (w4.setCell ⟨gk, 0, none⟩ (.int .i64 258)).cell? ⟨gc, 0, none⟩ = some (.int .i64 count) := (blk_cell KA.out.hc 0).trans rfl
    have fc : (w4.setCell ⟨gk, 0, none⟩ (.int .i64 258)).frozen? ⟨gc, 0, none⟩ = false := blk_frozen KA.out.hc 0
    go_upto_region 2 with (fail)
    have TB : Aside0 (Turn (fun k => B ≤ k) W ((w4.setCell ⟨gk, 0, none⟩ (.int .i64 258)).setCell ⟨gc, 0, none⟩ (.int .i64 0))) := ⟨(T2.out.setCell (p := ⟨gk, 0, none⟩) (.inl D.bk) _).setCell (p := ⟨gc, 0, none⟩) (.inl D.bc) _⟩
    generalize (w4.setCell ⟨gk, 0, none⟩ (.int .i64 258)).setCell ⟨gc, 0, none⟩ (.int .i64 0) = w5 at *
    have KC := Aside0.mk (KB.out.emptyList D)
    have hl5 := blk_alloc KB.out.hl (.cells #[] 26)
    have cl : (w5.alloc (.cells #[] 26)).cell? ⟨gl, 0, none⟩ = some v := (blk_cell hl5 0).trans rfl
    have fl : (w5.alloc (.cells #[] 26)).frozen? ⟨gl, 0, none⟩ = false := blk_frozen hl5 0
    clear hl5
    go_wp2
    go_end0
    exact ⟨rfl, _, _, by omega, KC.out, (TB.out.alloc _).setCell (p := ⟨gl, 0, none⟩) (.inl D.bl) _⟩
end Go.Proofs.YtnodmobblamlgaaDoor
