/- The writer's words: many, word, symbol, again. -/
import Derived.Test.YtnodmobblamlgaaDoorKBits
import Derived.Test.YtnodmobblamlgaaDoorKPFnConfigx4
namespace Go.Proofs.YtnodmobblamlgaaDoor
open Go.RowKit Go.Proofs.YtnodmobblamlgaaDoor.PFnConfig Go.Proofs.YtnodmobblamlgaaDoorW.PrintWords Go.Proofs.YtnodmobblamlgaaDoorW.PrintLast Go.Proofs.YtnodmobblamlgaaDoorW.PrintMore
set_option linter.unusedVariables false
set_option linter.unusedSimpArgs false

/-- Behind a call on the writer at g: up to so many bits more. -/
def Wpost (B : Nat) (ok : Nat → Prop) (W : World) (g n bound : Nat) (e : Ending) (w' : World) : Prop :=
  e = .returned (.tuple #[]) ∧ (∃ n', n ≤ n' ∧ n' ≤ n + bound ∧ Wst 109 B ok w' g n') ∧ Turn (fun k => k = g ∨ (ok k ∧ B ≤ k)) W w'

theorem fresh_turn {B : Nat} {ok : Nat → Prop} {S : Nat → Prop} {W w : World} (hf : ∀ k, W.heap.size ≤ k → ok k) (hT : Turn S W w) : ∀ k, w.heap.size ≤ k → ok k := fun k hk => hf k (Nat.le_trans hT.size hk)

set_option maxHeartbeats 1600000 in
set_option maxRecDepth 100000 in
theorem many_any (B : Nat) (ok : Nat → Prop) (g n : Nat) (v : Int) (m : Nat) (W : World) (h : Wst 109 B ok W g n) (hB : B ≤ W.heap.size) (hf : ∀ k, W.heap.size ≤ k → ok k) (hn : n ≤ 900000000) (hm : m ≤ 64) :
    Calls Tryd.prog 37 #[.pointer (some ⟨g, 0, none⟩), .int .i64 v, .int .i64 m] W (Wpost B ok W g n m) := by
  have HW := Aside0.mk h
  have HF := Aside0.mk hf
  clear h hf
  go_enter Tryd.func37, Tryd.ntmps37
  go_wp2
  go_loopg [6, 8] m (fun kq v6 v8 wr => ∃ (k : Nat), v8 = .int .i64 k ∧ Aside0 (k ≤ m ∧ kq = m - k) ∧ Aside0 (Wst 109 B ok wr g (n + k) ∧ Turn (fun k => k = g ∨ (ok k ∧ B ≤ k)) W wr))
  case atStart => exact ⟨0, rfl, ⟨Nat.zero_le _, rfl⟩, ⟨HW.out, Turn.refl _ _⟩⟩
  case round =>
    obtain ⟨k, rfl, HK, HX⟩ := hrel
    have hkm := HK.out.1
    rcases Nat.lt_or_ge k m with hk | hk
    · have HC := Aside0.mk (fun b => one_any B ok g (n + k) b wr HX.out.1 (Nat.le_trans hB HX.out.2.size) (fresh_turn (B := B) HF.out HX.out.2) (by omega))
      go_wp2_with (go_at_call 36; refine (HC.out _).mono ?_; rintro e w3 ⟨rfl, k1, k2⟩; have K1 := Aside0.mk k1; have K2 := Aside0.mk k2; clear k1 k2)
      go_roundg (m - (k + 1))
      case measure => have := HK.out.2; omega
      case rel => exact ⟨k + 1, by go_num, ⟨by omega, rfl⟩, ⟨K1.out, HX.out.2.trans K2.out (fun k h => .inl h)⟩⟩
    · obtain rfl : k = m := by omega
      go_wp2
      go_end0
      exact ⟨rfl, ⟨_, by omega, by omega, HX.out.1⟩, HX.out.2⟩

set_option maxHeartbeats 1600000 in
set_option maxRecDepth 100000 in
theorem word_any (B : Nat) (ok : Nat → Prop) (g n : Nat) (v : Int) (m : Nat) (W : World) (h : Wst 109 B ok W g n) (hB : B ≤ W.heap.size) (hf : ∀ k, W.heap.size ≤ k → ok k) (hn : n ≤ 900000000) (hm : m ≤ 64) :
    Calls Tryd.prog 56 #[.pointer (some ⟨g, 0, none⟩), .int .i64 v, .int .i64 m] W (Wpost B ok W g n m) := by
  have HW := Aside0.mk h
  have HF := Aside0.mk hf
  clear h hf
  go_enter Tryd.func56, Tryd.ntmps56
  go_wp2
  go_loopg [6] m (fun kq v6 wr => ∃ (k : Nat), v6 = .int .i64 ((k : Int) - 1) ∧ Aside0 (k ≤ m ∧ kq = k) ∧ Aside0 (Wst 109 B ok wr g (n + (m - k)) ∧ Turn (fun k => k = g ∨ (ok k ∧ B ≤ k)) W wr))
  case atStart => exact ⟨m, rfl, ⟨Nat.le_refl _, rfl⟩, ⟨by simpa using HW.out, Turn.refl _ _⟩⟩
  case round =>
    obtain ⟨k, rfl, HK, HX⟩ := hrel
    have hkm := HK.out.1
    rcases Nat.lt_or_ge 0 k with hk | hk
    · have HC := Aside0.mk (fun b => one_any B ok g (n + (m - k)) b wr HX.out.1 (Nat.le_trans hB HX.out.2.size) (fresh_turn (B := B) HF.out HX.out.2) (by omega))
      go_wp2_with (go_at_call 36; refine (HC.out _).mono ?_; rintro e w3 ⟨rfl, k1, k2⟩; have K1 := Aside0.mk k1; have K2 := Aside0.mk k2; clear k1 k2)
      go_roundg (k - 1)
      case measure => have := HK.out.2; omega
      case rel => exact ⟨k - 1, by go_num, ⟨by omega, rfl⟩, ⟨by have := K1.out; rwa [show n + (m - k) + 1 = n + (m - (k - 1)) by omega] at this, HX.out.2.trans K2.out (fun k h => .inl h)⟩⟩
    · obtain rfl : k = 0 := by omega
      go_wp2
      go_end0
      exact ⟨rfl, ⟨_, by omega, by omega, HX.out.1⟩, HX.out.2⟩

theorem Wpost.more {B : Nat} {ok : Nat → Prop} {W w' : World} {g n bound bound' : Nat} {e : Ending} (h : Wpost B ok W g n bound e w') (hb : bound ≤ bound') : Wpost B ok W g n bound' e w' := by
  obtain ⟨h1, ⟨n', a, b, c⟩, h3⟩ := h
  exact ⟨h1, ⟨n', a, by omega, c⟩, h3⟩

set_option maxHeartbeats 1600000 in
set_option maxRecDepth 100000 in
theorem symbol_any (B : Nat) (ok : Nat → Prop) (g n : Nat) (s : Int) (W : World) (h : Wst 109 B ok W g n) (hB : B ≤ W.heap.size) (hf : ∀ k, W.heap.size ≤ k → ok k) (hn : n ≤ 900000000) :
    Calls Tryd.prog 50 #[.pointer (some ⟨g, 0, none⟩), .int .i64 s] W (Wpost B ok W g n 9) := by
  have h8 : ∀ v, Calls Tryd.prog 56 #[.pointer (some ⟨g, 0, none⟩), .int .i64 v, .int .i64 8] W (Wpost B ok W g n 9) := fun v => (word_any B ok g n v 8 W h hB hf hn (by omega)).mono (fun e w' k => k.more (by omega))
  have h9 : ∀ v, Calls Tryd.prog 56 #[.pointer (some ⟨g, 0, none⟩), .int .i64 v, .int .i64 9] W (Wpost B ok W g n 9) := fun v => (word_any B ok g n v 9 W h hB hf hn (by omega)).mono (fun e w' k => k.more (by omega))
  have h7 : ∀ v, Calls Tryd.prog 56 #[.pointer (some ⟨g, 0, none⟩), .int .i64 v, .int .i64 7] W (Wpost B ok W g n 9) := fun v => (word_any B ok g n v 7 W h hB hf hn (by omega)).mono (fun e w' k => k.more (by omega))
  have H8 := Aside0.mk h8
  have H9 := Aside0.mk h9
  have H7 := Aside0.mk h7
  clear h hf h7 h8 h9
  go_enter Tryd.func50, Tryd.ntmps50
  go_wp2_with (go_at_call 56; (first | (with_reducible refine (H8.out _).mono ?_) | (with_reducible refine (H9.out _).mono ?_) | (with_reducible refine (H7.out _).mono ?_)); rintro e w3 k1; have K1 := Aside0.mk k1; obtain rfl := k1.1; clear k1)
  all_goals (go_end0; exact K1.out)

theorem lengths_all : (List.range 29).all (fun n => match spec_lengthOf.f (257 + (n : Int)) with | some (_, r) => decide (0 ≤ r ∧ r ≤ 5) | none => false) = true := by decide +kernel
theorem lengthOf_any (s : Int) (h1 : 257 ≤ s) (h2 : s ≤ 285) : ∃ a b, spec_lengthOf.f s = some (a, ((b : Nat) : Int)) ∧ b ≤ 5 := by
  have h := List.all_eq_true.1 lengths_all (s - 257).toNat (List.mem_range.2 (by omega))
  rw [show (257 : Int) + ((s - 257).toNat : Int) = s by omega] at h
  cases hf : spec_lengthOf.f s with
  | none => rw [hf] at h; simp at h
  | some p =>
    obtain ⟨a, b⟩ := p
    rw [hf] at h
    simp only [decide_eq_true_eq] at h
    exact ⟨a, b.toNat, by rw [show (b.toNat : Int) = b by omega], by omega⟩
theorem distances_all : (List.range 30).all (fun n => match spec_distanceOf.f (n : Int) with | some (_, r) => decide (0 ≤ r ∧ r ≤ 13) | none => false) = true := by decide +kernel
theorem distanceOf_any (s : Int) (h1 : 0 ≤ s) (h2 : s ≤ 29) : ∃ a b, spec_distanceOf.f s = some (a, ((b : Nat) : Int)) ∧ b ≤ 13 := by
  have h := List.all_eq_true.1 distances_all s.toNat (List.mem_range.2 (by omega))
  rw [show (s.toNat : Int) = s by omega] at h
  cases hf : spec_distanceOf.f s with
  | none => rw [hf] at h; simp at h
  | some p =>
    obtain ⟨a, b⟩ := p
    rw [hf] at h
    simp only [decide_eq_true_eq] at h
    exact ⟨a, b.toNat, by rw [show (b.toNat : Int) = b by omega], by omega⟩

theorem Turn.drawn0 {S : Nat → Prop} {W w w' : World} (h : Turn S W w) (k : Drawn0 w w') : Turn S W w' := by
  obtain ⟨n, rfl⟩ := k.out
  exact h.drewN n
theorem Wst.drawn0 {t : TypeId} {B : Nat} {ok : Nat → Prop} {w w' : World} {g n : Nat} (h : Wst t B ok w g n) (k : Drawn0 w w') : Wst t B ok w' g n := by
  obtain ⟨m, rfl⟩ := k.out
  obtain ⟨v, bs, h1, h2, h3⟩ := h
  exact ⟨v, bs, h1, Kd.R_step h2 (fun _ _ _ => rfl), h3⟩

/-- Since W up to so many bits have come to the n that were there. -/
structure Wacc (B : Nat) (ok : Nat → Prop) (W w : World) (g n bound : Nat) : Prop where
  st : ∃ n', n ≤ n' ∧ n' ≤ n + bound ∧ Wst 109 B ok w g n'
  turn : Turn (fun k => k = g ∨ (ok k ∧ B ≤ k)) W w
  base : B ≤ W.heap.size
  fresh : ∀ k, W.heap.size ≤ k → ok k

namespace Wacc
variable {B : Nat} {ok : Nat → Prop} {W w : World} {g n bound : Nat}
theorem drawn0 {w' : World} (h : Wacc B ok W w g n bound) (k : Drawn0 w w') : Wacc B ok W w' g n bound := by
  obtain ⟨⟨n', a, b, c⟩, t, x, y⟩ := h
  exact ⟨⟨n', a, b, c.drawn0 k⟩, t.drawn0 k, x, y⟩
theorem more {bound' : Nat} (h : Wacc B ok W w g n bound) (hb : bound ≤ bound') : Wacc B ok W w g n bound' := by
  obtain ⟨⟨n', a, b, c⟩, t, x, y⟩ := h
  exact ⟨⟨n', a, by omega, c⟩, t, x, y⟩
theorem call {f : Nat} {args : Array Value} {c : Nat} (h : Wacc B ok W w g n bound)
    (hc : ∀ n', n' ≤ n + bound → Wst 109 B ok w g n' → B ≤ w.heap.size → (∀ k, w.heap.size ≤ k → ok k) → Calls Tryd.prog f args w (Wpost B ok w g n' c)) :
    Calls Tryd.prog f args w (fun e w' => e = .returned (.tuple #[]) ∧ Wacc B ok W w' g n (bound + c)) := by
  obtain ⟨⟨n', a, b, st⟩, t, x, y⟩ := h
  refine (hc n' b st (Nat.le_trans x t.size) (fun k hk => y k (Nat.le_trans t.size hk))).mono ?_
  rintro e w' ⟨h1, ⟨n2, a2, b2, st2⟩, t2⟩
  exact ⟨h1, ⟨n2, by omega, by omega, st2⟩, t.trans t2 (fun k hk => .inl hk), x, y⟩
theorem start (h : Wst 109 B ok W g n) (hB : B ≤ W.heap.size) (hf : ∀ k, W.heap.size ≤ k → ok k) : Wacc B ok W W g n 0 := ⟨⟨n, by omega, by omega, h⟩, Turn.refl _ _, hB, hf⟩
theorem post (h : Wacc B ok W w g n bound) : Wpost B ok W g n bound (.returned (.tuple #[])) w := ⟨rfl, h.st, h.turn⟩
theorem many (h : Wacc B ok W w g n bound) (v : Int) (m : Nat) (hm : m ≤ 64) (hn : n + bound ≤ 900000000) : Calls Tryd.prog 37 #[.pointer (some ⟨g, 0, none⟩), .int .i64 v, .int .i64 m] w (fun e w' => e = .returned (.tuple #[]) ∧ Wacc B ok W w' g n (bound + m)) :=
  h.call (fun n' h1 h2 h3 h4 => many_any B ok g n' v m w h2 h3 h4 (by omega) hm)
theorem word (h : Wacc B ok W w g n bound) (v : Int) (m : Nat) (hm : m ≤ 64) (hn : n + bound ≤ 900000000) : Calls Tryd.prog 56 #[.pointer (some ⟨g, 0, none⟩), .int .i64 v, .int .i64 m] w (fun e w' => e = .returned (.tuple #[]) ∧ Wacc B ok W w' g n (bound + m)) :=
  h.call (fun n' h1 h2 h3 h4 => word_any B ok g n' v m w h2 h3 h4 (by omega) hm)
theorem symbol (h : Wacc B ok W w g n bound) (s : Int) (hn : n + bound ≤ 900000000) : Calls Tryd.prog 50 #[.pointer (some ⟨g, 0, none⟩), .int .i64 s] w (fun e w' => e = .returned (.tuple #[]) ∧ Wacc B ok W w' g n (bound + 9)) :=
  h.call (fun n' h1 h2 h3 h4 => symbol_any B ok g n' s w h2 h3 h4 (by omega))
theorem one (h : Wacc B ok W w g n bound) (b : Int) (hn : n + bound ≤ 900000000) : Calls Tryd.prog 36 #[.pointer (some ⟨g, 0, none⟩), .int .i64 b] w (fun e w' => e = .returned (.tuple #[]) ∧ Wacc B ok W w' g n (bound + 1)) :=
  h.call (fun n' h1 h2 h3 h4 => (one_any B ok g n' b w h2 h3 h4 (by omega)).mono (fun e w' k => ⟨k.1, ⟨n' + 1, by omega, by omega, k.2.1⟩, k.2.2⟩))
end Wacc

set_option maxHeartbeats 1600000 in
set_option maxRecDepth 100000 in
theorem again_any (B : Nat) (ok : Nat → Prop) (g n : Nat) (l d : Int) (W : World) (h : Wst 109 B ok W g n) (hB : B ≤ W.heap.size) (hf : ∀ k, W.heap.size ≤ k → ok k) (hn : n ≤ 800000000) :
    Calls Tryd.prog 51 #[.pointer (some ⟨g, 0, none⟩), .int .i64 l, .int .i64 d] W (Wpost B ok W g n 32) := by
  have HW := Aside0.mk (Wacc.start h hB hf)
  clear h hf
  go_enter Tryd.func51, Tryd.ntmps51
  go_wp2
  go_loopg [6, 7, 8, 9] 28 (fun kq v6 v7 v8 v9 wr => ∃ (k : Nat) (s : Int), v6 = .int .i64 s ∧ v7 = .int .i64 (258 + k) ∧ Aside0 (k ≤ 28 ∧ kq = 28 - k ∧ 257 ≤ s ∧ s ≤ 285) ∧ Aside0 (Wacc B ok W wr g n 0))
  case atStart => exact ⟨0, 257, rfl, rfl, ⟨by omega, rfl, by omega, by omega⟩, HW⟩
  case round =>
    obtain ⟨k, s, rfl, rfl, HK, HX⟩ := hrel
    have hkm := HK.out.1
    rcases Nat.lt_or_ge k 28 with hk | hk
    · obtain ⟨x, y, hxy, hy⟩ := lengthOf_any (258 + k) (by omega) (by omega)
      have HC := Aside0.mk (spec_lengthOf.calls _ _ _ wr hxy)
      clear hxy
      go_wp2_with (go_at_call 57; refine HC.out.mono ?_; rintro e w3 ⟨rfl, k1⟩; have K1 := Aside0.mk k1; clear k1)
      · go_roundg (28 - (k + 1))
        case measure => have := HK.out; omega
        case rel => exact ⟨k + 1, 258 + k, by go_num, by go_num, ⟨by omega, rfl, by omega, by omega⟩, ⟨HX.out.drawn0 K1.out⟩⟩
      · go_roundg (28 - (k + 1))
        case measure => have := HK.out; omega
        case rel => exact ⟨k + 1, s, by go_num, by go_num, ⟨by omega, rfl, by have := HK.out; omega, by have := HK.out; omega⟩, ⟨HX.out.drawn0 K1.out⟩⟩
    · obtain rfl : k = 28 := by omega
      obtain ⟨x, y, hxy, hy⟩ := lengthOf_any s HK.out.2.2.1 HK.out.2.2.2
      have HC := Aside0.mk (fun w => spec_lengthOf.calls _ _ _ w hxy)
      clear hxy
      go_wp2_with (first | (go_at_call 57; refine (HC.out _).mono ?_; rintro e w3 ⟨rfl, k1⟩; have K1 := Aside0.mk (HX.out.drawn0 k1); clear k1) | (go_at_call 50; refine (K1.out.symbol _ (by omega)).mono ?_; rintro e w4 ⟨rfl, k1⟩; have K2 := Aside0.mk k1; clear k1 HC) | (go_at_call 37; refine (K2.out.many _ y (by omega) (by omega)).mono ?_; rintro e w5 ⟨rfl, k1⟩; have K3 := Aside0.mk (k1.more (show _ ≤ 14 by omega)); clear k1 K2))
      obtain ⟨wo, rfl⟩ : ∃ wo : World, wo = wr := ⟨_, rfl⟩
      clear HK HX hkm K1
      go_loopg [6, 12, 13, 14] 29 (fun kq v6 v12 v13 v14 wr => ∃ (k : Nat) (s : Int), v6 = .int .i64 s ∧ v12 = .int .i64 (1 + k) ∧ Aside0 (k ≤ 29 ∧ kq = 29 - k ∧ 0 ≤ s ∧ s ≤ 29) ∧ Aside0 (Wacc B ok W wr g n 14))
      case atStart => exact ⟨0, 0, rfl, rfl, ⟨by omega, rfl, by omega, by omega⟩, K3⟩
      case round =>
        obtain ⟨k, s, rfl, rfl, HK, HX⟩ := hrel
        have hkm := HK.out.1
        rcases Nat.lt_or_ge k 29 with hk | hk
        · obtain ⟨x, y, hxy, hy⟩ := distanceOf_any (1 + k) (by omega) (by omega)
          have HC := Aside0.mk (spec_distanceOf.calls _ _ _ wr hxy)
          clear hxy
          go_wp2_with (go_at_call 58; refine HC.out.mono ?_; rintro e w3 ⟨rfl, k1⟩; have K1 := Aside0.mk k1; clear k1)
          · go_roundg (29 - (k + 1))
            case measure => have := HK.out; omega
            case rel => exact ⟨k + 1, 1 + k, by go_num, by go_num, ⟨by omega, rfl, by omega, by omega⟩, ⟨HX.out.drawn0 K1.out⟩⟩
          · go_roundg (29 - (k + 1))
            case measure => have := HK.out; omega
            case rel => exact ⟨k + 1, s, by go_num, by go_num, ⟨by omega, rfl, by have := HK.out; omega, by have := HK.out; omega⟩, ⟨HX.out.drawn0 K1.out⟩⟩
        · obtain rfl : k = 29 := by omega
          obtain ⟨x, y, hxy, hy⟩ := distanceOf_any s HK.out.2.2.1 HK.out.2.2.2
          have HC := Aside0.mk (fun w => spec_distanceOf.calls _ _ _ w hxy)
          clear hxy
          go_wp2_with (first | (go_at_call 58; refine (HC.out _).mono ?_; rintro e w3 ⟨rfl, k1⟩; have K1 := Aside0.mk (HX.out.drawn0 k1); clear k1) | (go_at_call 56; refine (K1.out.word _ 5 (by omega) (by omega)).mono ?_; rintro e w4 ⟨rfl, k1⟩; have K2 := Aside0.mk k1; clear k1 HC) | (go_at_call 37; refine (K2.out.many _ y (by omega) (by omega)).mono ?_; rintro e w5 ⟨rfl, k1⟩; have K3 := Aside0.mk (k1.more (show _ ≤ 32 by omega)); clear k1 K2))
          go_end0
          exact K3.out.post
end Go.Proofs.YtnodmobblamlgaaDoor
