/- Contracts of the reference's writer of bits at the dump of this seat: how many bits it holds; nothing else is told. -/
import Derived.Test.YtnodmobblamlgaaDoorProg
import Derived.Test.YtnodmobblamlgaaDoorEBase
import Derived.Deep.LoopGhost
import Derived.Deep.RegionWith
import Derived.StillTailTactics
import Derived.Deep.CutRange
import Derived.Deep.DeepCutAuto
import Derived.Test.YtnodmobblamlgaaDoorEPFnConfigx4
namespace Go.Proofs.YtnodmobblamlgaaDoor
open Go.RowKit Go.Proofs.YtnodmobblamlgaaDoorW.PrintWords Go.Proofs.YtnodmobblamlgaaDoorW.PrintLast Go.Proofs.YtnodmobblamlgaaDoorW.PrintMore
set_option linter.unusedVariables false
set_option linter.unusedSimpArgs false

theorem i3 : (Tryd.prog.info? 3).map (fun i => (i.zero, i.size, i.bytes)) = some (some (.int .i64 0), 1, 8) := by kernel_rfl
theorem i5 : (Tryd.prog.info? 5).map (fun i => (i.zero, i.size, i.bytes)) = some (some (.int .u8 0), 1, 1) := by kernel_rfl

/-- A writer of bits at block g (of type t): it holds n bits, its bytes are a row of the call's own from B on, in a block that is ok. -/
def Wst (t : TypeId) (B : Nat) (ok : Nat → Prop) (W : World) (g n : Nat) : Prop :=
  ∃ v bs, W.heap[g]? = some (.cells #[v, .int .i64 n] t (0, 0)) ∧ Kd.R (Kd.int .u8) 5 W B (fun k => ok k ∧ k ≠ g) v bs ∧ bs.length = (n + 7) / 8

/-- A row of bytes that is not empty lies in a block from B on; its cells, and a store into it. -/
theorem R_open {W : World} {B : Nat} {ok : Nat → Prop} {v : Value} {xs : List Int} (h : (Kd.int .u8).R 5 W B ok v xs) (h0 : 0 < xs.length) :
    ∃ q cap, v = .slice (some ⟨q, 0, none⟩) xs.length cap ∧ B ≤ q ∧ ok q ∧ q < W.heap.size ∧ (∀ i, i < xs.length → W.cell? ⟨q, i, none⟩ = some (.int .u8 (xs.getD i 0))) ∧ (∀ i, W.frozen? ⟨q, i, none⟩ = false) ∧
      (∀ i x, i < xs.length → (Kd.int .u8).R 5 (W.setCell ⟨q, i, none⟩ (.int .u8 x)) B ok v (xs.set i x)) := by
  have ho := Kd.own_of_R h
  rcases ho.2 with ⟨_, hz⟩ | ⟨q, cap, cur, rfl, hq, hh, hr⟩
  · omega
  · have hcap : xs.length ≤ cap := own_le ho
    refine ⟨q, cap, rfl, hq, h.1 q (by simp [Value.ownBlock]), blk_lt hh, fun i hi => ?_, fun i => blk_frozen hh i, fun i x hi => ?_⟩
    · obtain ⟨A, c, he, hl, hC⟩ := Kd.R_reads h
      injection he with e1 e2 e3
      subst e1
      have hR := Kd.reads_of_C (enc := Value.int .u8) (d := (0 : Int)) hC
      obtain ⟨ad, hA, hc⟩ := hR.2.2 (by omega)
      injection hA with hA
      subst hA
      have := hc i hi
      rwa [add_plain] at this
    · have h2 := (own_store ho (i : Int) x).1
      rw [Int.toNat_natCast] at h2
      have h3 : (xs.set i x).length = xs.length := List.length_set
      exact Kd.R_of_own (by rw [h3]; exact h2) h.1

/-- In the midst of 'one': there is room for one bit more. -/
def Wmid (B : Nat) (ok : Nat → Prop) (W W' : World) (g n : Nat) : Prop :=
  Turn (fun k => k = g ∨ (ok k ∧ B ≤ k)) W W' ∧ ∃ v bs, W'.heap[g]? = some (.cells #[v, .int .i64 n] 109 (0, 0)) ∧ Kd.R (Kd.int .u8) 5 W' B (fun k => ok k ∧ k ≠ g) v bs ∧ bs.length = n / 8 + 1

set_option maxHeartbeats 1600000 in
set_option maxRecDepth 100000 in
theorem one_any (B : Nat) (ok : Nat → Prop) (g n : Nat) (b : Int) (W : World) (h : Wst 109 B ok W g n) (hB : B ≤ W.heap.size) (hf : ∀ k, W.heap.size ≤ k → ok k) (hn : n ≤ 1000000000) :
    Calls Tryd.prog 36 #[.pointer (some ⟨g, 0, none⟩), .int .i64 b] W fun e w' => e = .returned (.tuple #[]) ∧ Wst 109 B ok w' g (n + 1) ∧ Turn (fun k => k = g ∨ (ok k ∧ B ≤ k)) W w' := by
  obtain ⟨v, bs, hb, hR, hl⟩ := h
  obtain ⟨A, c, rfl, hAc, hC⟩ := Kd.R_reads hR
  have HB := Aside0.mk hb
  have HR := Aside0.mk hR
  have HL := Aside0.mk hl
  have HF := Aside0.mk hf
  have c0 : W.cell? ⟨g, 0, none⟩ = some (.slice A bs.length c) := (blk_cell hb 0).trans rfl
  have c1 : W.cell? ⟨g, 1, none⟩ = some (.int .i64 n) := (blk_cell hb 1).trans rfl
  have HC := Aside0.mk hC
  have HAC := Aside0.mk hAc
  clear hb hR hl hf hC hAc
  have f0 : W.frozen? ⟨g, 0, none⟩ = false := blk_frozen HB.out 0
  have f1 : W.frozen? ⟨g, 1, none⟩ = false := blk_frozen HB.out 1
  have hfr : ∀ k, W.heap.size ≤ k → ok k ∧ k ≠ g := fun k hk => ⟨HF.out k hk, by have := blk_lt HB.out; omega⟩
  have HFR := Aside0.mk hfr
  clear hfr
  have mid0 : n % 8 ≠ 0 → Wmid B ok W W g n := fun h => ⟨Turn.refl _ _, _, _, HB.out, HR.out, by have := HL.out; omega⟩
  have MID0 := Aside0.mk mid0
  clear mid0
  go_enter Tryd.func36, Tryd.ntmps36
  go_upto_if 9 with (fail)
  go_cut [0] from 2 to 46 (fun p wx => p = .pointer (some ⟨g, 0, none⟩) ∧ Aside0 (Wmid B ok W wx g n))
  case first =>
    go_wp2_with ((with_reducible refine gate_builtin (b := .append) (xs := #[.tmp 14, .tmp 15]) rfl ?_); at_builtin; go_loud (refine Kd.R_append (Kd.int .u8) (w0 := W) B rfl (.tmp 14) (.tmp 15) 26 5 (.int .u8 0) 1 rfl Tryd.underlying26 i5 rfl (by decide) (by omega) _ bs 0 [.int .u8 0] (fun k => ok k ∧ k ≠ g) (fun _ => False) rfl rfl rfl (fun _ hk => hk.elim) HFR.out HR.out (Below.refl _ _) hB (by have := HL.out; omega) ?_); intro v1 w1 ho hb1 hg1 hat; obtain ⟨A1, k1, rfl, hk1, hC1⟩ := Kd.R_reads ho; have b1 := Aside0.mk ((hg1.block g (blk_lt HB.out) (fun e => (HR.out.1 g e.symm).2 rfl)).trans HB.out); have f10 : w1.frozen? ⟨g, 0, none⟩ = false := blk_frozen b1.out 0; have c10 : w1.cell? ⟨g, 0, none⟩ = some (.slice A bs.length c) := (blk_cell b1.out 0).trans rfl; have HO := Aside0.mk ho; have HG := Aside0.mk hg1; have HK1 := Aside0.mk hk1; have HC1 := Aside0.mk hC1; clear ho hb1 hg1 hat hk1 hC1)
    · rename_i h8
      go_meet
      refine ⟨rfl, ⟨?_⟩⟩
      have h8' : n % 8 = 0 := by
        have := h8
        simp at this
        omega
      have T1 : Turn (fun k => k = g ∨ (ok k ∧ B ≤ k)) W w1 := (Turn.refl _ _).grown HG.out (fun k hk => .inl (.inr ⟨(HR.out.1 k hk).1, own_base (Kd.own_of_R HR.out) k hk⟩))
      obtain ⟨t1, t2⟩ := Turn.set b1.out 0 (.slice A1 (bs.length + 1) k1)
      have e1 : (bs ++ [0]).length = bs.length + 1 := by simp
      refine ⟨T1.setCell (p := ⟨g, 0, none⟩) (.inl (.inl rfl)) _, _, bs ++ [0], t2, ?_, by have := HL.out; rw [e1]; omega⟩
      have h3 := t1.R HO.out (fun k hk => hk.2)
      rw [e1] at h3
      exact h3
    · rename_i h8
      go_meet
      refine ⟨rfl, ⟨MID0.out ?_⟩⟩
      intro h
      simp at h8
      omega
  case rest =>
    obtain ⟨rfl, hM⟩ := hcut
    obtain ⟨T2, v2, bs2, hb2, hR2, hl2⟩ := hM.out
    clear hM
    obtain ⟨q, cap, rfl, hq, hok, hlt, hcell, hfrz, hset⟩ := R_open hR2 (by omega)
    have hw : IntKind.i64.wrap ((n : Int) / 8) = ((n / 8 : Nat) : Int) := by simp [IntKind.wrap, IntKind.signed, IntKind.bits]; omega
    have htm : (n : Int).tmod 8 = (n : Int) % 8 := Int.tmod_eq_emod_of_nonneg (by omega)
    have hx0 : (0 : Int) ≤ (n : Int) / 8 := by omega
    have hx1 : (n : Int) / 8 < (bs2.length : Int) := by omega
    have hx2 : ((n : Int) / 8).toNat = n / 8 := by omega
    have hs0 : ¬ ((n : Int) % 8 < 0) := by omega
    have d0 : wc.cell? ⟨g, 0, none⟩ = some (.slice (some ⟨q, 0, none⟩) bs2.length cap) := (blk_cell hb2 0).trans rfl
    have d1 : wc.cell? ⟨g, 1, none⟩ = some (.int .i64 n) := (blk_cell hb2 1).trans rfl
    have d2 := hcell (n / 8) (by omega)
    have e2 := hfrz (n / 8)
    have e1 : wc.frozen? ⟨g, 1, none⟩ = false := blk_frozen hb2 1
    have T2' := Aside0.mk T2
    have HB2 := Aside0.mk hb2
    have HR2 := Aside0.mk hR2
    have HL2 := Aside0.mk hl2
    have HSET := Aside0.mk (fun x => hset (n / 8) x (by omega))
    have HOK := Aside0.mk hok
    have hi : n / 8 < bs2.length := by omega
    clear T2 hb2 hR2 hl2 hcell hfrz hset hok f0 f1 c0 c1
    go_upto_region 2 with (fail)
    go_still_tail 21, (by kernel_rfl)
    change wpList _ _ _ _ _ wc.drew
    have T3 := Aside0.mk T2'.out.drew
    have HB3 : Aside0 (wc.drew.heap[g]? = _) := ⟨HB2.out⟩
    have HR3 : Aside0 ((Kd.int .u8).R 5 wc.drew B (fun k => ok k ∧ k ≠ g) _ bs2) := ⟨Kd.R_step HR2.out (fun _ _ _ => rfl)⟩
    generalize wc.drew = w3 at *
    obtain ⟨q', cap', he, _, _, _, hcell, hfrz, hset⟩ := R_open HR3.out (by omega)
    obtain ⟨rfl, rfl⟩ : q = q' ∧ cap = cap' := by
      injection he with h1 h2 h3
      injection h1 with h1
      injection h1 with h1
      exact ⟨h1, h3⟩
    clear he
    generalize bits BinOp.or IntKind.u8 _ _ = x
    have hqg : q ≠ g := HOK.out.2
    have cq := hcell (n / 8) hi
    have fq := hfrz (n / 8)
    have HR4 := Aside0.mk (hset (n / 8) x hi)
    have HB4 : Aside0 ((w3.setCell ⟨q, n / 8, none⟩ (.int .u8 x)).heap[g]? = _) := ⟨(Below.heap_setCell w3 ⟨q, n / 8, none⟩ _ g (fun e => hqg e.symm)).trans HB3.out⟩
    have T4 : Aside0 (Turn (fun k => k = g ∨ (ok k ∧ B ≤ k)) W (w3.setCell ⟨q, n / 8, none⟩ (.int .u8 x))) := ⟨T3.out.setCell (p := ⟨q, n / 8, none⟩) (.inl (.inr ⟨HOK.out.1, hq⟩)) _⟩
    have QG := Aside0.mk hqg
    clear hcell hfrz hset HR3 HB3 T3 HSET HR2 HB2 T2' d0 d1 d2 e1 e2 hqg
    go_upto_region 3 with (fail)
    generalize w3.setCell ⟨q, n / 8, none⟩ (.int .u8 x) = w4 at *
    have d1 : w4.cell? ⟨g, 1, none⟩ = some (.int .i64 n) := (blk_cell HB4.out 1).trans rfl
    have e1 : w4.frozen? ⟨g, 1, none⟩ = false := blk_frozen HB4.out 1
    go_wp2
    go_end0
    obtain ⟨t1, t2⟩ := Turn.set HB4.out 1 (.int .i64 ((n + 1 : Nat) : Int))
    refine ⟨rfl, ?_, T4.out.setCell (p := ⟨g, 1, none⟩) (.inl (.inl rfl)) _⟩
    exact ⟨_, _, t2, t1.R HR4.out (fun k hk => hk.2), by have := HL2.out; rw [List.length_set]; omega⟩
end Go.Proofs.YtnodmobblamlgaaDoor
/- The writer's words: many, word, symbol, again. -/
namespace Go.Proofs.YtnodmobblamlgaaDoor
open Go.RowKit Go.Proofs.YtnodmobblamlgaaDoor.PFnConfig Go.Proofs.YtnodmobblamlgaaDoorW.PrintWords Go.Proofs.YtnodmobblamlgaaDoorW.PrintLast Go.Proofs.YtnodmobblamlgaaDoorW.PrintMore
set_option linter.unusedVariables false
set_option linter.unusedSimpArgs false

/-- Behind a call on the writer at g: up to so many bits more. -/
def Wpost (B : Nat) (ok : Nat → Prop) (W : World) (g n bound : Nat) (e : Ending) (w' : World) : Prop :=
  e = .returned (.tuple #[]) ∧ (∃ n', n ≤ n' ∧ n' ≤ n + bound ∧ Wst 109 B ok w' g n') ∧ Turn (fun k => k = g ∨ (ok k ∧ B ≤ k)) W w'

theorem fresh_turn {B : Nat} {ok : Nat → Prop} {S : Nat → Prop} {W w : World} (hf : ∀ k, W.heap.size ≤ k → ok k) (hT : Turn S W w) : ∀ k, w.heap.size ≤ k → ok k := fun k hk => hf k (Nat.le_trans hT.size hk)

set_option maxHeartbeats 1600000 in
set_option maxRecDepth 100000 in
theorem many_any (B : Nat) (ok : Nat → Prop) (g n : Nat) (v : Int) (m : Nat) (W : World) (h : Wst 109 B ok W g n) (hB : B ≤ W.heap.size) (hf : ∀ k, W.heap.size ≤ k → ok k) (hn : n ≤ 900000000) (hm : m ≤ 64) :
    Calls Tryd.prog 37 #[.pointer (some ⟨g, 0, none⟩), .int .i64 v, .int .i64 m] W (Wpost B ok W g n m) := by
  have HW := Aside0.mk h
  have HF := Aside0.mk hf
  clear h hf
  go_enter Tryd.func37, Tryd.ntmps37
  go_wp2
  go_loopg [6, 8] m (fun kq v6 v8 wr => ∃ (k : Nat), v8 = .int .i64 k ∧ Aside0 (k ≤ m ∧ kq = m - k) ∧ Aside0 (Wst 109 B ok wr g (n + k) ∧ Turn (fun k => k = g ∨ (ok k ∧ B ≤ k)) W wr))
  case atStart => exact ⟨0, rfl, ⟨Nat.zero_le _, rfl⟩, ⟨HW.out, Turn.refl _ _⟩⟩
  case round =>
    obtain ⟨k, rfl, HK, HX⟩ := hrel
    have hkm := HK.out.1
    rcases Nat.lt_or_ge k m with hk | hk
    · have HC := Aside0.mk (fun b => one_any B ok g (n + k) b wr HX.out.1 (Nat.le_trans hB HX.out.2.size) (fresh_turn (B := B) HF.out HX.out.2) (by omega))
      go_wp2_with (go_at_call 36; refine (HC.out _).mono ?_; rintro e w3 ⟨rfl, k1, k2⟩; have K1 := Aside0.mk k1; have K2 := Aside0.mk k2; clear k1 k2)
      go_roundg (m - (k + 1))
      case measure => have := HK.out.2; omega
      case rel => exact ⟨k + 1, by go_num, ⟨by omega, rfl⟩, ⟨K1.out, HX.out.2.trans K2.out (fun k h => .inl h)⟩⟩
    · obtain rfl : k = m := by omega
      go_wp2
      go_end0
      exact ⟨rfl, ⟨_, by omega, by omega, HX.out.1⟩, HX.out.2⟩

set_option maxHeartbeats 1600000 in
set_option maxRecDepth 100000 in
theorem word_any (B : Nat) (ok : Nat → Prop) (g n : Nat) (v : Int) (m : Nat) (W : World) (h : Wst 109 B ok W g n) (hB : B ≤ W.heap.size) (hf : ∀ k, W.heap.size ≤ k → ok k) (hn : n ≤ 900000000) (hm : m ≤ 64) :
    Calls Tryd.prog 56 #[.pointer (some ⟨g, 0, none⟩), .int .i64 v, .int .i64 m] W (Wpost B ok W g n m) := by
  have HW := Aside0.mk h
  have HF := Aside0.mk hf
  clear h hf
  go_enter Tryd.func56, Tryd.ntmps56
  go_wp2
  go_loopg [6] m (fun kq v6 wr => ∃ (k : Nat), v6 = .int .i64 ((k : Int) - 1) ∧ Aside0 (k ≤ m ∧ kq = k) ∧ Aside0 (Wst 109 B ok wr g (n + (m - k)) ∧ Turn (fun k => k = g ∨ (ok k ∧ B ≤ k)) W wr))
  case atStart => exact ⟨m, rfl, ⟨Nat.le_refl _, rfl⟩, ⟨by simpa using HW.out, Turn.refl _ _⟩⟩
  case round =>
    obtain ⟨k, rfl, HK, HX⟩ := hrel
    have hkm := HK.out.1
    rcases Nat.lt_or_ge 0 k with hk | hk
    · have HC := Aside0.mk (fun b => one_any B ok g (n + (m - k)) b wr HX.out.1 (Nat.le_trans hB HX.out.2.size) (fresh_turn (B := B) HF.out HX.out.2) (by omega))
      go_wp2_with (go_at_call 36; refine (HC.out _).mono ?_; rintro e w3 ⟨rfl, k1, k2⟩; have K1 := Aside0.mk k1; have K2 := Aside0.mk k2; clear k1 k2)
      go_roundg (k - 1)
      case measure => have := HK.out.2; omega
      case rel => exact ⟨k - 1, by go_num, ⟨by omega, rfl⟩, ⟨by have := K1.out; rwa [show n + (m - k) + 1 = n + (m - (k - 1)) by omega] at this, HX.out.2.trans K2.out (fun k h => .inl h)⟩⟩
    · obtain rfl : k = 0 := by omega
      go_wp2
      go_end0
      exact ⟨rfl, ⟨_, by omega, by omega, HX.out.1⟩, HX.out.2⟩

theorem Wpost.more {B : Nat} {ok : Nat → Prop} {W w' : World} {g n bound bound' : Nat} {e : Ending} (h : Wpost B ok W g n bound e w') (hb : bound ≤ bound') : Wpost B ok W g n bound' e w' := by
  obtain ⟨h1, ⟨n', a, b, c⟩, h3⟩ := h
  exact ⟨h1, ⟨n', a, by omega, c⟩, h3⟩

set_option maxHeartbeats 1600000 in
set_option maxRecDepth 100000 in
theorem symbol_any (B : Nat) (ok : Nat → Prop) (g n : Nat) (s : Int) (W : World) (h : Wst 109 B ok W g n) (hB : B ≤ W.heap.size) (hf : ∀ k, W.heap.size ≤ k → ok k) (hn : n ≤ 900000000) :
    Calls Tryd.prog 50 #[.pointer (some ⟨g, 0, none⟩), .int .i64 s] W (Wpost B ok W g n 9) := by
  have h8 : ∀ v, Calls Tryd.prog 56 #[.pointer (some ⟨g, 0, none⟩), .int .i64 v, .int .i64 8] W (Wpost B ok W g n 9) := fun v => (word_any B ok g n v 8 W h hB hf hn (by omega)).mono (fun e w' k => k.more (by omega))
  have h9 : ∀ v, Calls Tryd.prog 56 #[.pointer (some ⟨g, 0, none⟩), .int .i64 v, .int .i64 9] W (Wpost B ok W g n 9) := fun v => (word_any B ok g n v 9 W h hB hf hn (by omega)).mono (fun e w' k => k.more (by omega))
  have h7 : ∀ v, Calls Tryd.prog 56 #[.pointer (some ⟨g, 0, none⟩), .int .i64 v, .int .i64 7] W (Wpost B ok W g n 9) := fun v => (word_any B ok g n v 7 W h hB hf hn (by omega)).mono (fun e w' k => k.more (by omega))
  have H8 := Aside0.mk h8
  have H9 := Aside0.mk h9
  have H7 := Aside0.mk h7
  clear h hf h7 h8 h9
  go_enter Tryd.func50, Tryd.ntmps50
  go_wp2_with (go_at_call 56; (first | (with_reducible refine (H8.out _).mono ?_) | (with_reducible refine (H9.out _).mono ?_) | (with_reducible refine (H7.out _).mono ?_)); rintro e w3 k1; have K1 := Aside0.mk k1; obtain rfl := k1.1; clear k1)
  all_goals (go_end0; exact K1.out)

theorem lengths_all : (List.range 29).all (fun n => match spec_lengthOf.f (257 + (n : Int)) with | some (_, r) => decide (0 ≤ r ∧ r ≤ 5) | none => false) = true := by decide +kernel
theorem lengthOf_any (s : Int) (h1 : 257 ≤ s) (h2 : s ≤ 285) : ∃ a b, spec_lengthOf.f s = some (a, ((b : Nat) : Int)) ∧ b ≤ 5 := by
  have h := List.all_eq_true.1 lengths_all (s - 257).toNat (List.mem_range.2 (by omega))
  rw [show (257 : Int) + ((s - 257).toNat : Int) = s by omega] at h
  cases hf : spec_lengthOf.f s with
  | none => rw [hf] at h; simp at h
  | some p =>
    obtain ⟨a, b⟩ := p
    rw [hf] at h
    simp only [decide_eq_true_eq] at h
    exact ⟨a, b.toNat, by rw [show (b.toNat : Int) = b by omega], by omega⟩
theorem distances_all : (List.range 30).all (fun n => match spec_distanceOf.f (n : Int) with | some (_, r) => decide (0 ≤ r ∧ r ≤ 13) | none => false) = true := by decide +kernel
theorem distanceOf_any (s : Int) (h1 : 0 ≤ s) (h2 : s ≤ 29) : ∃ a b, spec_distanceOf.f s = some (a, ((b : Nat) : Int)) ∧ b ≤ 13 := by
  have h := List.all_eq_true.1 distances_all s.toNat (List.mem_range.2 (by omega))
  rw [show (s.toNat : Int) = s by omega] at h
  cases hf : spec_distanceOf.f s with
  | none => rw [hf] at h; simp at h
  | some p =>
    obtain ⟨a, b⟩ := p
    rw [hf] at h
    simp only [decide_eq_true_eq] at h
    exact ⟨a, b.toNat, by rw [show (b.toNat : Int) = b by omega], by omega⟩

theorem Turn.drawn0 {S : Nat → Prop} {W w w' : World} (h : Turn S W w) (k : Drawn0 w w') : Turn S W w' := by
  obtain ⟨n, rfl⟩ := k.out
  exact h.drewN n
theorem Wst.drawn0 {t : TypeId} {B : Nat} {ok : Nat → Prop} {w w' : World} {g n : Nat} (h : Wst t B ok w g n) (k : Drawn0 w w') : Wst t B ok w' g n := by
  obtain ⟨m, rfl⟩ := k.out
  obtain ⟨v, bs, h1, h2, h3⟩ := h
  exact ⟨v, bs, h1, Kd.R_step h2 (fun _ _ _ => rfl), h3⟩

/-- Since W up to so many bits have come to the n that were there. -/
structure Wacc (B : Nat) (ok : Nat → Prop) (W w : World) (g n bound : Nat) : Prop where
  st : ∃ n', n ≤ n' ∧ n' ≤ n + bound ∧ Wst 109 B ok w g n'
  turn : Turn (fun k => k = g ∨ (ok k ∧ B ≤ k)) W w
  base : B ≤ W.heap.size
  fresh : ∀ k, W.heap.size ≤ k → ok k

namespace Wacc
variable {B : Nat} {ok : Nat → Prop} {W w : World} {g n bound : Nat}
theorem drawn0 {w' : World} (h : Wacc B ok W w g n bound) (k : Drawn0 w w') : Wacc B ok W w' g n bound := by
  obtain ⟨⟨n', a, b, c⟩, t, x, y⟩ := h
  exact ⟨⟨n', a, b, c.drawn0 k⟩, t.drawn0 k, x, y⟩
theorem more {bound' : Nat} (h : Wacc B ok W w g n bound) (hb : bound ≤ bound') : Wacc B ok W w g n bound' := by
  obtain ⟨⟨n', a, b, c⟩, t, x, y⟩ := h
  exact ⟨⟨n', a, by omega, c⟩, t, x, y⟩
theorem call {f : Nat} {args : Array Value} {c : Nat} (h : Wacc B ok W w g n bound)
    (hc : ∀ n', n' ≤ n + bound → Wst 109 B ok w g n' → B ≤ w.heap.size → (∀ k, w.heap.size ≤ k → ok k) → Calls Tryd.prog f args w (Wpost B ok w g n' c)) :
    Calls Tryd.prog f args w (fun e w' => e = .returned (.tuple #[]) ∧ Wacc B ok W w' g n (bound + c)) := by
  obtain ⟨⟨n', a, b, st⟩, t, x, y⟩ := h
  refine (hc n' b st (Nat.le_trans x t.size) (fun k hk => y k (Nat.le_trans t.size hk))).mono ?_
  rintro e w' ⟨h1, ⟨n2, a2, b2, st2⟩, t2⟩
  exact ⟨h1, ⟨n2, by omega, by omega, st2⟩, t.trans t2 (fun k hk => .inl hk), x, y⟩
theorem start (h : Wst 109 B ok W g n) (hB : B ≤ W.heap.size) (hf : ∀ k, W.heap.size ≤ k → ok k) : Wacc B ok W W g n 0 := ⟨⟨n, by omega, by omega, h⟩, Turn.refl _ _, hB, hf⟩
theorem post (h : Wacc B ok W w g n bound) : Wpost B ok W g n bound (.returned (.tuple #[])) w := ⟨rfl, h.st, h.turn⟩
theorem many (h : Wacc B ok W w g n bound) (v : Int) (m : Nat) (hm : m ≤ 64) (hn : n + bound ≤ 900000000) : Calls Tryd.prog 37 #[.pointer (some ⟨g, 0, none⟩), .int .i64 v, .int .i64 m] w (fun e w' => e = .returned (.tuple #[]) ∧ Wacc B ok W w' g n (bound + m)) :=
  h.call (fun n' h1 h2 h3 h4 => many_any B ok g n' v m w h2 h3 h4 (by omega) hm)
theorem word (h : Wacc B ok W w g n bound) (v : Int) (m : Nat) (hm : m ≤ 64) (hn : n + bound ≤ 900000000) : Calls Tryd.prog 56 #[.pointer (some ⟨g, 0, none⟩), .int .i64 v, .int .i64 m] w (fun e w' => e = .returned (.tuple #[]) ∧ Wacc B ok W w' g n (bound + m)) :=
  h.call (fun n' h1 h2 h3 h4 => word_any B ok g n' v m w h2 h3 h4 (by omega) hm)
theorem symbol (h : Wacc B ok W w g n bound) (s : Int) (hn : n + bound ≤ 900000000) : Calls Tryd.prog 50 #[.pointer (some ⟨g, 0, none⟩), .int .i64 s] w (fun e w' => e = .returned (.tuple #[]) ∧ Wacc B ok W w' g n (bound + 9)) :=
  h.call (fun n' h1 h2 h3 h4 => symbol_any B ok g n' s w h2 h3 h4 (by omega))
theorem one (h : Wacc B ok W w g n bound) (b : Int) (hn : n + bound ≤ 900000000) : Calls Tryd.prog 36 #[.pointer (some ⟨g, 0, none⟩), .int .i64 b] w (fun e w' => e = .returned (.tuple #[]) ∧ Wacc B ok W w' g n (bound + 1)) :=
  h.call (fun n' h1 h2 h3 h4 => (one_any B ok g n' b w h2 h3 h4 (by omega)).mono (fun e w' k => ⟨k.1, ⟨n' + 1, by omega, by omega, k.2.1⟩, k.2.2⟩))
end Wacc

set_option maxHeartbeats 1600000 in
set_option maxRecDepth 100000 in
theorem again_any (B : Nat) (ok : Nat → Prop) (g n : Nat) (l d : Int) (W : World) (h : Wst 109 B ok W g n) (hB : B ≤ W.heap.size) (hf : ∀ k, W.heap.size ≤ k → ok k) (hn : n ≤ 800000000) :
    Calls Tryd.prog 51 #[.pointer (some ⟨g, 0, none⟩), .int .i64 l, .int .i64 d] W (Wpost B ok W g n 32) := by
  have HW := Aside0.mk (Wacc.start h hB hf)
  clear h hf
  go_enter Tryd.func51, Tryd.ntmps51
  go_wp2
  go_loopg [6, 7, 8, 9] 28 (fun kq v6 v7 v8 v9 wr => ∃ (k : Nat) (s : Int), v6 = .int .i64 s ∧ v7 = .int .i64 (258 + k) ∧ Aside0 (k ≤ 28 ∧ kq = 28 - k ∧ 257 ≤ s ∧ s ≤ 285) ∧ Aside0 (Wacc B ok W wr g n 0))
  case atStart => exact ⟨0, 257, rfl, rfl, ⟨by omega, rfl, by omega, by omega⟩, HW⟩
  case round =>
    obtain ⟨k, s, rfl, rfl, HK, HX⟩ := hrel
    have hkm := HK.out.1
    rcases Nat.lt_or_ge k 28 with hk | hk
    · obtain ⟨x, y, hxy, hy⟩ := lengthOf_any (258 + k) (by omega) (by omega)
      have HC := Aside0.mk (spec_lengthOf.calls _ _ _ wr hxy)
      clear hxy
      go_wp2_with (go_at_call 57; refine HC.out.mono ?_; rintro e w3 ⟨rfl, k1⟩; have K1 := Aside0.mk k1; clear k1)
      · go_roundg (28 - (k + 1))
        case measure => have := HK.out; omega
        case rel => exact ⟨k + 1, 258 + k, by go_num, by go_num, ⟨by omega, rfl, by omega, by omega⟩, ⟨HX.out.drawn0 K1.out⟩⟩
      · go_roundg (28 - (k + 1))
        case measure => have := HK.out; omega
        case rel => exact ⟨k + 1, s, by go_num, by go_num, ⟨by omega, rfl, by have := HK.out; omega, by have := HK.out; omega⟩, ⟨HX.out.drawn0 K1.out⟩⟩
    · obtain rfl : k = 28 := by omega
      obtain ⟨x, y, hxy, hy⟩ := lengthOf_any s HK.out.2.2.1 HK.out.2.2.2
      have HC := Aside0.mk (fun w => spec_lengthOf.calls _ _ _ w hxy)
      clear hxy
      go_wp2_with (first | (go_at_call 57; refine (HC.out _).mono ?_; rintro e w3 ⟨rfl, k1⟩; have K1 := Aside0.mk (HX.out.drawn0 k1); clear k1) | (go_at_call 50; refine (K1.out.symbol _ (by omega)).mono ?_; rintro e w4 ⟨rfl, k1⟩; have K2 := Aside0.mk k1; clear k1 HC) | (go_at_call 37; refine (K2.out.many _ y (by omega) (by omega)).mono ?_; rintro e w5 ⟨rfl, k1⟩; have K3 := Aside0.mk (k1.more (show _ ≤ 14 by omega)); clear k1 K2))
      obtain ⟨wo, rfl⟩ : ∃ wo : World, wo = wr := ⟨_, rfl⟩
      clear HK HX hkm K1
      go_loopg [6, 12, 13, 14] 29 (fun kq v6 v12 v13 v14 wr => ∃ (k : Nat) (s : Int), v6 = .int .i64 s ∧ v12 = .int .i64 (1 + k) ∧ Aside0 (k ≤ 29 ∧ kq = 29 - k ∧ 0 ≤ s ∧ s ≤ 29) ∧ Aside0 (Wacc B ok W wr g n 14))
      case atStart => exact ⟨0, 0, rfl, rfl, ⟨by omega, rfl, by omega, by omega⟩, K3⟩
      case round =>
        obtain ⟨k, s, rfl, rfl, HK, HX⟩ := hrel
        have hkm := HK.out.1
        rcases Nat.lt_or_ge k 29 with hk | hk
        · obtain ⟨x, y, hxy, hy⟩ := distanceOf_any (1 + k) (by omega) (by omega)
          have HC := Aside0.mk (spec_distanceOf.calls _ _ _ wr hxy)
          clear hxy
          go_wp2_with (go_at_call 58; refine HC.out.mono ?_; rintro e w3 ⟨rfl, k1⟩; have K1 := Aside0.mk k1; clear k1)
          · go_roundg (29 - (k + 1))
            case measure => have := HK.out; omega
            case rel => exact ⟨k + 1, 1 + k, by go_num, by go_num, ⟨by omega, rfl, by omega, by omega⟩, ⟨HX.out.drawn0 K1.out⟩⟩
          · go_roundg (29 - (k + 1))
            case measure => have := HK.out; omega
            case rel => exact ⟨k + 1, s, by go_num, by go_num, ⟨by omega, rfl, by have := HK.out; omega, by have := HK.out; omega⟩, ⟨HX.out.drawn0 K1.out⟩⟩
        · obtain rfl : k = 29 := by omega
          obtain ⟨x, y, hxy, hy⟩ := distanceOf_any s HK.out.2.2.1 HK.out.2.2.2
          have HC := Aside0.mk (fun w => spec_distanceOf.calls _ _ _ w hxy)
          clear hxy
          go_wp2_with (first | (go_at_call 58; refine (HC.out _).mono ?_; rintro e w3 ⟨rfl, k1⟩; have K1 := Aside0.mk (HX.out.drawn0 k1); clear k1) | (go_at_call 56; refine (K1.out.word _ 5 (by omega) (by omega)).mono ?_; rintro e w4 ⟨rfl, k1⟩; have K2 := Aside0.mk k1; clear k1 HC) | (go_at_call 37; refine (K2.out.many _ y (by omega) (by omega)).mono ?_; rintro e w5 ⟨rfl, k1⟩; have K3 := Aside0.mk (k1.more (show _ ≤ 32 by omega)); clear k1 K2))
          go_end0
          exact K3.out.post
end Go.Proofs.YtnodmobblamlgaaDoor
/- The writer's blocks. -/
namespace Go.Proofs.YtnodmobblamlgaaDoor
open Go.RowKit Go.Proofs.YtnodmobblamlgaaDoor.PFnConfig Go.Proofs.YtnodmobblamlgaaDoorW.PrintWords Go.Proofs.YtnodmobblamlgaaDoorW.PrintLast Go.Proofs.YtnodmobblamlgaaDoorW.PrintMore
set_option linter.unusedVariables false
set_option linter.unusedSimpArgs false

theorem add_block (ad : Addr) (i : Nat) : (ad.add i).block = ad.block := by
  unfold Addr.add; split <;> rfl

/-- A row that is read stays where its block is none of those that turned. -/
theorem Turn.C {S : Nat → Prop} {W w : World} {k : IntKind} {A : Option Addr} {n : Nat} {xs : List Int} (h : Turn S W w) (hC : Kd.C (Kd.int k) W A n xs) (hA : ∀ ad, A = some ad → ¬ S ad.block) : Kd.C (Kd.int k) w A n xs := by
  have hR := Kd.reads_of_C (enc := Value.int k) (d := (0 : Int)) (h1 := fun _ => rfl) hC
  refine Kd.C_of_reads (d := (0 : Int)) ⟨hR.1, hR.2.1, fun hn => ?_⟩
  obtain ⟨ad, e, hc⟩ := hR.2.2 hn
  exact ⟨ad, e, fun j hj => h.cell (hc j hj) (by rw [add_block]; exact hA ad e)⟩

theorem w64s {x : Int} (h0 : -1000000000 ≤ x) (h1 : x ≤ 1000000000) : wrap64 x = x := by unfold wrap64; omega

theorem repeats_l (xs : List Int) (a f : Int) (ha : 0 ≤ a) (ha2 : a ≤ 1000000) (hf : 0 ≤ f) (hx : xs.length ≤ 1000000) :
    ∀ (m : Nat) (x : Int), 0 ≤ x → x + m = 258 → ∃ r, spec_repeats.l0 (m + 1) xs a f x = some r ∧ 0 ≤ r ∧ r ≤ 258 := by
  intro m
  induction m with
  | zero =>
    intro x h0 h1
    unfold spec_repeats.l0
    by_cases c : f ≤ a
    · rw [if_pos c, if_neg (by omega)]
      exact ⟨x, rfl, by omega, by omega⟩
    · rw [if_neg c]
      exact ⟨x, rfl, by omega, by omega⟩
  | succ m ih =>
    intro x h0 h1
    unfold spec_repeats.l0
    by_cases c : f ≤ a
    · rw [if_pos c, if_pos (by omega), w64s (x := a + x) (by omega) (by omega)]
      by_cases c2 : a + x < xs.length
      · rw [if_pos c2, if_pos (by omega), w64s (x := a + x - f) (by omega) (by omega), if_pos (by omega), if_pos (by omega)]
        by_cases c3 : rd xs (a + x) = rd xs (a + x - f)
        · rw [if_pos c3, w64s (x := x + 1) (by omega) (by omega)]
          exact ih (x + 1) (by omega) (by omega)
        · rw [if_neg c3]
          exact ⟨x, rfl, by omega, by omega⟩
      · rw [if_neg c2]
        exact ⟨x, rfl, by omega, by omega⟩
    · rw [if_neg c]
      exact ⟨x, rfl, by omega, by omega⟩
theorem repeats_any (xs : List Int) (a f : Int) (ha : 0 ≤ a) (ha2 : a ≤ 1000000) (hf : 0 ≤ f) (hx : xs.length ≤ 1000000) : ∃ r, spec_repeats.f 259 xs a f = some r ∧ 0 ≤ r ∧ r ≤ 258 :=
  repeats_l xs a f ha ha2 hf hx 258 0 (by omega) (by omega)

set_option maxHeartbeats 3200000 in
set_option maxRecDepth 100000 in
theorem block_any (B : Nat) (ok : Nat → Prop) (g n : Nat) (A AF : Option Addr) (c cF : Nat) (xs fs : List Int) (from_ to_ : Nat) (W : World) (h : Wst 109 B ok W g n) (hB : B ≤ W.heap.size) (hf : ∀ k, W.heap.size ≤ k → ok k) (hn : n ≤ 100000000)
    (hx : Kd.C (Kd.int .u8) W A xs.length xs) (hxc : xs.length ≤ c) (hxl : xs.length ≤ 1000000) (hxA : ∀ ad, A = some ad → ¬ (ad.block = g ∨ (ok ad.block ∧ B ≤ ad.block)))
    (hfs : Kd.C (Kd.int .i64) W AF fs.length fs) (hfc : fs.length ≤ cF) (hfl : fs.length ≤ 100) (hfA : ∀ ad, AF = some ad → ¬ (ad.block = g ∨ (ok ad.block ∧ B ≤ ad.block))) (hfw : ∀ i, 0 ≤ rd fs i ∧ rd fs i ≤ 100)
    (hft : from_ ≤ to_) (htl : to_ ≤ xs.length) :
    Calls Tryd.prog 38 #[.pointer (some ⟨g, 0, none⟩), .slice A xs.length c, .int .i64 from_, .int .i64 to_, .slice AF fs.length cF] W (Wpost B ok W g n (32 * (to_ - from_) + 9)) := by
  have HW := Aside0.mk (Wacc.start h hB hf)
  have HX := Aside0.mk hx
  have HXA := Aside0.mk hxA
  have HFS := Aside0.mk hfs
  have HFA := Aside0.mk hfA
  have HFW := Aside0.mk hfw
  clear h hf hx hxA hfs hfA hfw
  go_enter Tryd.func38, Tryd.ntmps38
  go_wp2
  go_loopg [10, 11, 12, 14, 15] (to_ - from_) (fun kq v10 v11 v12 v14 v15 wr => ∃ (i : Nat), v10 = .int .i64 i ∧ Aside0 (from_ ≤ i ∧ i ≤ to_ ∧ kq = to_ - i) ∧ Aside0 (Wacc B ok W wr g n (32 * (i - from_))))
  case atStart => exact ⟨from_, rfl, ⟨by omega, hft, rfl⟩, ⟨by simpa using HW.out⟩⟩
  case round =>
    obtain ⟨i, rfl, HK, HW⟩ := hrel
    have hki := HK.out.2.1
    have hkf := HK.out.1
    rcases Nat.lt_or_ge i to_ with hi | hi
    · go_wp2
      obtain ⟨wo, rfl⟩ : ∃ wo : World, wo = wr := ⟨_, rfl⟩
      obtain ⟨go, rfl⟩ : ∃ go : Nat, go = gk := ⟨_, rfl⟩
      go_loopg [11, 12, 14, 15, 22] fs.length (fun kq v11 v12 v14 v15 v22 wr => ∃ (j : Nat) (x d : Int), v11 = .int .i64 x ∧ v12 = .int .i64 d ∧ v22 = .int .i64 j ∧ Aside0 (j ≤ fs.length ∧ kq = fs.length - j ∧ 0 ≤ x ∧ x ≤ (to_ : Int) - i) ∧ Aside0 (Wacc B ok W wr g n (32 * (i - from_))))
      case atStart => exact ⟨0, 0, 0, rfl, rfl, rfl, ⟨by omega, rfl, by omega, by omega⟩, HW⟩
      case round =>
        clear HW
        obtain ⟨j, x, d, rfl, rfl, rfl, HJ, HW⟩ := hrel
        have hjl := HJ.out.1
        have hx0 := HJ.out.2.2.1
        have hx1 := HJ.out.2.2.2
        rcases Nat.lt_or_ge j fs.length with hj | hj
        · have HF1 := Aside0.mk (HW.out.turn.C HFS.out HFA.out)
          obtain ⟨ad, hA, hc⟩ := Kd.at_int HF1.out (j : Int) (by omega) (by omega)
          subst hA
          simp only [Int.toNat_natCast] at hc
          obtain ⟨r, hr, hr0, hr1⟩ := repeats_any xs (i : Int) (rd fs j) (by omega) (by omega) (HFW.out j).1 hxl
          have HX1 := Aside0.mk (HW.out.turn.C HX.out HXA.out)
          have HC := Aside0.mk (spec_repeats.calls 259 A c xs (i : Int) (rd fs j) r wr HX1.out hxc hr)
          clear hr
          go_wp2_with (go_at_call 49; refine HC.out.mono ?_; rintro e w3 ⟨rfl, k1⟩; have K1 := Aside0.mk (HW.out.drawn0 k1); clear k1)
          · go_roundg (fs.length - (j + 1))
            case measure => have := HJ.out; omega
            case rel => exact ⟨j + 1, (to_ : Int) - i, rd fs j, by go_num, by go_num, by go_num, ⟨by omega, rfl, by omega, by omega⟩, K1⟩
          · go_roundg (fs.length - (j + 1))
            case measure => have := HJ.out; omega
            case rel => exact ⟨j + 1, r, rd fs j, by go_num, by go_num, by go_num, ⟨by omega, rfl, by omega, by omega⟩, K1⟩
          · go_roundg (fs.length - (j + 1))
            case measure => have := HJ.out; omega
            case rel => exact ⟨j + 1, x, d, by go_num, by go_num, by go_num, ⟨by omega, rfl, by omega, by omega⟩, K1⟩
          · go_roundg (fs.length - (j + 1))
            case measure => have := HJ.out; omega
            case rel => exact ⟨j + 1, x, d, by go_num, by go_num, by go_num, ⟨by omega, rfl, by omega, by omega⟩, K1⟩
        · obtain rfl : j = fs.length := by omega
          have HX1 := Aside0.mk (HW.out.turn.C HX.out HXA.out)
          obtain ⟨ad, hA, hc⟩ := Kd.at_int HX1.out (i : Int) (by omega) (by omega)
          subst hA
          simp only [Int.toNat_natCast] at hc
          go_wp2_with (first | (go_at_call 50; refine (HW.out.symbol _ (by omega)).mono ?_; rintro e w4 ⟨rfl, k1⟩; have K2 := Aside0.mk k1; clear k1) | (go_at_call 51; refine (HW.out.call (c := 32) (fun n' h1 h2 h3 h4 => again_any B ok g n' _ _ wr h2 h3 h4 (by omega))).mono ?_; rintro e w4 ⟨rfl, k1⟩; have K3 := Aside0.mk k1; clear k1))
          · go_roundg (to_ - (i + 1))
            case measure => have := HK.out; omega
            case rel => exact ⟨i + 1, by go_num, ⟨by omega, by omega, rfl⟩, ⟨K2.out.more (by omega)⟩⟩
          · go_roundg (to_ - (i + x.toNat))
            case measure => have := HK.out; omega
            case rel => exact ⟨i + x.toNat, by go_num, ⟨by omega, by omega, rfl⟩, ⟨K3.out.more (by omega)⟩⟩
    · obtain rfl : i = to_ := by omega
      go_wp2_with (go_at_call 50; refine (HW.out.symbol _ (by omega)).mono ?_; rintro e w4 ⟨rfl, k1⟩; have K2 := Aside0.mk k1; clear k1)
      go_end0
      exact K2.out.post
end Go.Proofs.YtnodmobblamlgaaDoor
