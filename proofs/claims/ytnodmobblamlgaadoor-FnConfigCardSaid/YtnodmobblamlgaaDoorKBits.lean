/- Contracts of the reference's writer of bits at the dump of this seat: how many bits it holds; nothing else is told. -/
import Derived.Test.YtnodmobblamlgaaDoorProg
import Derived.Test.YtnodmobblamlgaaDoorKBase
import Derived.Deep.LoopGhost
import Derived.Deep.RegionWith
import Derived.StillTailTactics
import Derived.Deep.CutRange
import Derived.Deep.DeepCutAuto
namespace Go.Proofs.YtnodmobblamlgaaDoor
open Go.RowKit Go.Proofs.YtnodmobblamlgaaDoorW.PrintWords Go.Proofs.YtnodmobblamlgaaDoorW.PrintLast Go.Proofs.YtnodmobblamlgaaDoorW.PrintMore
set_option linter.unusedVariables false
set_option linter.unusedSimpArgs false

theorem i3 : (Tryd.prog.info? 3).map (fun i => (i.zero, i.size, i.bytes)) = some (some (.int .i64 0), 1, 8) := by kernel_rfl
theorem i5 : (Tryd.prog.info? 5).map (fun i => (i.zero, i.size, i.bytes)) = some (some (.int .u8 0), 1, 1) := by kernel_rfl

/-- A writer of bits at block g (of type t): it holds n bits, its bytes are a row of the call's own from B on, in a block that is ok. -/
def Wst (t : TypeId) (B : Nat) (ok : Nat → Prop) (W : World) (g n : Nat) : Prop :=
  ∃ v bs, W.heap[g]? = some (.cells #[v, .int .i64 n] t (0, 0)) ∧ Kd.R (Kd.int .u8) 5 W B (fun k => ok k ∧ k ≠ g) v bs ∧ bs.length = (n + 7) / 8

/-- A row of bytes that is not empty lies in a block from B on; its cells, and a store into it. -/
theorem R_open {W : World} {B : Nat} {ok : Nat → Prop} {v : Value} {xs : List Int} (h : (Kd.int .u8).R 5 W B ok v xs) (h0 : 0 < xs.length) :
    ∃ q cap, v = .slice (some ⟨q, 0, none⟩) xs.length cap ∧ B ≤ q ∧ ok q ∧ q < W.heap.size ∧ (∀ i, i < xs.length → W.cell? ⟨q, i, none⟩ = some (.int .u8 (xs.getD i 0))) ∧ (∀ i, W.frozen? ⟨q, i, none⟩ = false) ∧
      (∀ i x, i < xs.length → (Kd.int .u8).R 5 (W.setCell ⟨q, i, none⟩ (.int .u8 x)) B ok v (xs.set i x)) := by
  have ho := Kd.own_of_R h
  rcases ho.2 with ⟨_, hz⟩ | ⟨q, cap, cur, rfl, hq, hh, hr⟩
  · omega
  · have hcap : xs.length ≤ cap := own_le ho
    refine ⟨q, cap, rfl, hq, h.1 q (by simp [Value.ownBlock]), blk_lt hh, fun i hi => ?_, fun i => blk_frozen hh i, fun i x hi => ?_⟩
    · obtain ⟨A, c, he, hl, hC⟩ := Kd.R_reads h
      injection he with e1 e2 e3
      subst e1
      have hR := Kd.reads_of_C (enc := Value.int .u8) (d := (0 : Int)) hC
      obtain ⟨ad, hA, hc⟩ := hR.2.2 (by omega)
      injection hA with hA
      subst hA
      have := hc i hi
      rwa [add_plain] at this
    · have h2 := (own_store ho (i : Int) x).1
      rw [Int.toNat_natCast] at h2
      have h3 : (xs.set i x).length = xs.length := List.length_set
      exact Kd.R_of_own (by rw [h3]; exact h2) h.1

/-- In the midst of 'one': there is room for one bit more. -/
def Wmid (B : Nat) (ok : Nat → Prop) (W W' : World) (g n : Nat) : Prop :=
  Turn (fun k => k = g ∨ (ok k ∧ B ≤ k)) W W' ∧ ∃ v bs, W'.heap[g]? = some (.cells #[v, .int .i64 n] 109 (0, 0)) ∧ Kd.R (Kd.int .u8) 5 W' B (fun k => ok k ∧ k ≠ g) v bs ∧ bs.length = n / 8 + 1

set_option maxHeartbeats 1600000 in
set_option maxRecDepth 100000 in
theorem one_any (B : Nat) (ok : Nat → Prop) (g n : Nat) (b : Int) (W : World) (h : Wst 109 B ok W g n) (hB : B ≤ W.heap.size) (hf : ∀ k, W.heap.size ≤ k → ok k) (hn : n ≤ 1000000000) :
    Calls Tryd.prog 36 #[.pointer (some ⟨g, 0, none⟩), .int .i64 b] W fun e w' => e = .returned (.tuple #[]) ∧ Wst 109 B ok w' g (n + 1) ∧ Turn (fun k => k = g ∨ (ok k ∧ B ≤ k)) W w' := by
  obtain ⟨v, bs, hb, hR, hl⟩ := h
  obtain ⟨A, c, rfl, hAc, hC⟩ := Kd.R_reads hR
  have HB := Aside0.mk hb
  have HR := Aside0.mk hR
  have HL := Aside0.mk hl
  have HF := Aside0.mk hf
  have c0 : W.cell? ⟨g, 0, none⟩ = some (.slice A bs.length c) := (blk_cell hb 0).trans rfl
  have c1 : W.cell? ⟨g, 1, none⟩ = some (.int .i64 n) := (blk_cell hb 1).trans rfl
  have HC := Aside0.mk hC
  have HAC := Aside0.mk hAc
  clear hb hR hl hf hC hAc
  have f0 : W.frozen? ⟨g, 0, none⟩ = false := blk_frozen HB.out 0
  have f1 : W.frozen? ⟨g, 1, none⟩ = false := blk_frozen HB.out 1
  have hfr : ∀ k, W.heap.size ≤ k → ok k ∧ k ≠ g := fun k hk => ⟨HF.out k hk, by have := blk_lt HB.out; omega⟩
  have HFR := Aside0.mk hfr
  clear hfr
  have mid0 : n % 8 ≠ 0 → Wmid B ok W W g n := fun h => ⟨Turn.refl _ _, _, _, HB.out, HR.out, by have := HL.out; omega⟩
  have MID0 := Aside0.mk mid0
  clear mid0
  go_enter Tryd.func36, Tryd.ntmps36
  go_upto_if 9 with (fail)
  go_cut [0] from 2 to 46 (fun p wx => p = .pointer (some ⟨g, 0, none⟩) ∧ Aside0 (Wmid B ok W wx g n))
  case first =>
    go_wp2_with ((with_reducible refine gate_builtin (b := .append) (xs := #[.tmp 14, .tmp 15]) rfl ?_); at_builtin; go_loud (refine Kd.R_append (Kd.int .u8) (w0 := W) B rfl (.tmp 14) (.tmp 15) 26 5 (.int .u8 0) 1 rfl Tryd.underlying26 i5 rfl (by decide) (by omega) _ bs 0 [.int .u8 0] (fun k => ok k ∧ k ≠ g) (fun _ => False) rfl rfl rfl (fun _ hk => hk.elim) HFR.out HR.out (Below.refl _ _) hB (by have := HL.out; omega) ?_); intro v1 w1 ho hb1 hg1 hat; obtain ⟨A1, k1, rfl, hk1, hC1⟩ := Kd.R_reads ho; have b1 := Aside0.mk ((hg1.block g (blk_lt HB.out) (fun e => (HR.out.1 g e.symm).2 rfl)).trans HB.out); have f10 : w1.frozen? ⟨g, 0, none⟩ = false := blk_frozen b1.out 0; have c10 : w1.cell? ⟨g, 0, none⟩ = some (.slice A bs.length c) := (blk_cell b1.out 0).trans rfl; have HO := Aside0.mk ho; have HG := Aside0.mk hg1; have HK1 := Aside0.mk hk1; have HC1 := Aside0.mk hC1; clear ho hb1 hg1 hat hk1 hC1)
    · rename_i h8
      go_meet
      refine ⟨rfl, ⟨?_⟩⟩
      have h8' : n % 8 = 0 := by
        have := h8
        simp at this
        omega
      have T1 : Turn (fun k => k = g ∨ (ok k ∧ B ≤ k)) W w1 := (Turn.refl _ _).grown HG.out (fun k hk => .inl (.inr ⟨(HR.out.1 k hk).1, own_base (Kd.own_of_R HR.out) k hk⟩))
      obtain ⟨t1, t2⟩ := Turn.set b1.out 0 (.slice A1 (bs.length + 1) k1)
      have e1 : (bs ++ [0]).length = bs.length + 1 := by simp
      refine ⟨T1.setCell (p := ⟨g, 0, none⟩) (.inl (.inl rfl)) _, _, bs ++ [0], t2, ?_, by have := HL.out; rw [e1]; omega⟩
      have h3 := t1.R HO.out (fun k hk => hk.2)
      rw [e1] at h3
      exact h3
    · rename_i h8
      go_meet
      refine ⟨rfl, ⟨MID0.out ?_⟩⟩
      intro h
      simp at h8
      omega
  case rest =>
    obtain ⟨rfl, hM⟩ := hcut
    obtain ⟨T2, v2, bs2, hb2, hR2, hl2⟩ := hM.out
    clear hM
    obtain ⟨q, cap, rfl, hq, hok, hlt, hcell, hfrz, hset⟩ := R_open hR2 (by omega)
    have hw : IntKind.i64.wrap ((n : Int) / 8) = ((n / 8 : Nat) : Int) := by simp [IntKind.wrap, IntKind.signed, IntKind.bits]; omega
    have htm : (n : Int).tmod 8 = (n : Int) % 8 := Int.tmod_eq_emod_of_nonneg (by omega)
    have hx0 : (0 : Int) ≤ (n : Int) / 8 := by omega
    have hx1 : (n : Int) / 8 < (bs2.length : Int) := by omega
    have hx2 : ((n : Int) / 8).toNat = n / 8 := by omega
    have hs0 : ¬ ((n : Int) % 8 < 0) := by omega
    have d0 : wc.cell? ⟨g, 0, none⟩ = some (.slice (some ⟨q, 0, none⟩) bs2.length cap) := (blk_cell hb2 0).trans rfl
    have d1 : wc.cell? ⟨g, 1, none⟩ = some (.int .i64 n) := (blk_cell hb2 1).trans rfl
    have d2 := hcell (n / 8) (by omega)
    have e2 := hfrz (n / 8)
    have e1 : wc.frozen? ⟨g, 1, none⟩ = false := blk_frozen hb2 1
    have T2' := Aside0.mk T2
    have HB2 := Aside0.mk hb2
    have HR2 := Aside0.mk hR2
    have HL2 := Aside0.mk hl2
    have HSET := Aside0.mk (fun x => hset (n / 8) x (by omega))
    have HOK := Aside0.mk hok
    have hi : n / 8 < bs2.length := by omega
    clear T2 hb2 hR2 hl2 hcell hfrz hset hok f0 f1 c0 c1
    go_upto_region 2 with (fail)
    go_still_tail 21, (by kernel_rfl)
    change wpList _ _ _ _ _ wc.drew
    have T3 := Aside0.mk T2'.out.drew
    have HB3 : Aside0 (wc.drew.heap[g]? = _) := ⟨HB2.out⟩
    have HR3 : Aside0 ((Kd.int .u8).R 5 wc.drew B (fun k => ok k ∧ k ≠ g) _ bs2) := ⟨Kd.R_step HR2.out (fun _ _ _ => rfl)⟩
    generalize wc.drew = w3 at *
    obtain ⟨q', cap', he, _, _, _, hcell, hfrz, hset⟩ := R_open HR3.out (by omega)
    obtain ⟨rfl, rfl⟩ : q = q' ∧ cap = cap' := by
      injection he with h1 h2 h3
      injection h1 with h1
      injection h1 with h1
      exact ⟨h1, h3⟩
    clear he
    generalize bits BinOp.or IntKind.u8 _ _ = x
    have hqg : q ≠ g := HOK.out.2
    have cq := hcell (n / 8) hi
    have fq := hfrz (n / 8)
    have HR4 := Aside0.mk (hset (n / 8) x hi)
    have HB4 : Aside0 ((w3.setCell ⟨q, n / 8, none⟩ (.int .u8 x)).heap[g]? = _) := ⟨(Below.heap_setCell w3 ⟨q, n / 8, none⟩ _ g (fun e => hqg e.symm)).trans HB3.out⟩
    have T4 : Aside0 (Turn (fun k => k = g ∨ (ok k ∧ B ≤ k)) W (w3.setCell ⟨q, n / 8, none⟩ (.int .u8 x))) := ⟨T3.out.setCell (p := ⟨q, n / 8, none⟩) (.inl (.inr ⟨HOK.out.1, hq⟩)) _⟩
    have QG := Aside0.mk hqg
    clear hcell hfrz hset HR3 HB3 T3 HSET HR2 HB2 T2' d0 d1 d2 e1 e2 hqg
    go_upto_region 3 with (fail)
    generalize w3.setCell ⟨q, n / 8, none⟩ (.int .u8 x) = w4 at *
    have d1 : w4.cell? ⟨g, 1, none⟩ = some (.int .i64 n) := (blk_cell HB4.out 1).trans rfl
    have e1 : w4.frozen? ⟨g, 1, none⟩ = false := blk_frozen HB4.out 1
    go_wp2
    go_end0
    obtain ⟨t1, t2⟩ := Turn.set HB4.out 1 (.int .i64 ((n + 1 : Nat) : Int))
    refine ⟨rfl, ?_, T4.out.setCell (p := ⟨g, 1, none⟩) (.inl (.inl rfl)) _⟩
    exact ⟨_, _, t2, t1.R HR4.out (fun k hk => hk.2), by have := HL2.out; rw [List.length_set]; omega⟩
end Go.Proofs.YtnodmobblamlgaaDoor
