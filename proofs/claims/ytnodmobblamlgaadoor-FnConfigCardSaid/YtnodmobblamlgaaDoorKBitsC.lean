/- The writer's blocks. -/
import Derived.Test.YtnodmobblamlgaaDoorKBitsB
namespace Go.Proofs.YtnodmobblamlgaaDoor
open Go.RowKit Go.Proofs.YtnodmobblamlgaaDoor.PFnConfig Go.Proofs.YtnodmobblamlgaaDoorW.PrintWords Go.Proofs.YtnodmobblamlgaaDoorW.PrintLast Go.Proofs.YtnodmobblamlgaaDoorW.PrintMore
set_option linter.unusedVariables false
set_option linter.unusedSimpArgs false

theorem add_block (ad : Addr) (i : Nat) : (ad.add i).block = ad.block := by
  unfold Addr.add; split <;> rfl

/-- A row that is read stays where its block is none of those that turned. -/
theorem Turn.C {S : Nat → Prop} {W w : World} {k : IntKind} {A : Option Addr} {n : Nat} {xs : List Int} (h : Turn S W w) (hC : Kd.C (Kd.int k) W A n xs) (hA : ∀ ad, A = some ad → ¬ S ad.block) : Kd.C (Kd.int k) w A n xs := by
  have hR := Kd.reads_of_C (enc := Value.int k) (d := (0 : Int)) (h1 := fun _ => rfl) hC
  refine Kd.C_of_reads (d := (0 : Int)) ⟨hR.1, hR.2.1, fun hn => ?_⟩
  obtain ⟨ad, e, hc⟩ := hR.2.2 hn
  exact ⟨ad, e, fun j hj => h.cell (hc j hj) (by rw [add_block]; exact hA ad e)⟩

theorem w64s {x : Int} (h0 : -1000000000 ≤ x) (h1 : x ≤ 1000000000) : wrap64 x = x := by unfold wrap64; omega

theorem repeats_l (xs : List Int) (a f : Int) (ha : 0 ≤ a) (ha2 : a ≤ 1000000) (hf : 0 ≤ f) (hx : xs.length ≤ 1000000) :
    ∀ (m : Nat) (x : Int), 0 ≤ x → x + m = 258 → ∃ r, spec_repeats.l0 (m + 1) xs a f x = some r ∧ 0 ≤ r ∧ r ≤ 258 := by
  intro m
  induction m with
  | zero =>
    intro x h0 h1
    unfold spec_repeats.l0
    by_cases c : f ≤ a
    · rw [if_pos c, if_neg (by omega)]
      exact ⟨x, rfl, by omega, by omega⟩
    · rw [if_neg c]
      exact ⟨x, rfl, by omega, by omega⟩
  | succ m ih =>
    intro x h0 h1
    unfold spec_repeats.l0
    by_cases c : f ≤ a
    · rw [if_pos c, if_pos (by omega), w64s (x := a + x) (by omega) (by omega)]
      by_cases c2 : a + x < xs.length
      · rw [if_pos c2, if_pos (by omega), w64s (x := a + x - f) (by omega) (by omega), if_pos (by omega), if_pos (by omega)]
        by_cases c3 : rd xs (a + x) = rd xs (a + x - f)
        · rw [if_pos c3, w64s (x := x + 1) (by omega) (by omega)]
          exact ih (x + 1) (by omega) (by omega)
        · rw [if_neg c3]
          exact ⟨x, rfl, by omega, by omega⟩
      · rw [if_neg c2]
        exact ⟨x, rfl, by omega, by omega⟩
    · rw [if_neg c]
      exact ⟨x, rfl, by omega, by omega⟩
theorem repeats_any (xs : List Int) (a f : Int) (ha : 0 ≤ a) (ha2 : a ≤ 1000000) (hf : 0 ≤ f) (hx : xs.length ≤ 1000000) : ∃ r, spec_repeats.f 259 xs a f = some r ∧ 0 ≤ r ∧ r ≤ 258 :=
  repeats_l xs a f ha ha2 hf hx 258 0 (by omega) (by omega)

set_option maxHeartbeats 3200000 in
set_option maxRecDepth 100000 in
theorem block_any (B : Nat) (ok : Nat → Prop) (g n : Nat) (A AF : Option Addr) (c cF : Nat) (xs fs : List Int) (from_ to_ : Nat) (W : World) (h : Wst 109 B ok W g n) (hB : B ≤ W.heap.size) (hf : ∀ k, W.heap.size ≤ k → ok k) (hn : n ≤ 100000000)
    (hx : Kd.C (Kd.int .u8) W A xs.length xs) (hxc : xs.length ≤ c) (hxl : xs.length ≤ 1000000) (hxA : ∀ ad, A = some ad → ¬ (ad.block = g ∨ (ok ad.block ∧ B ≤ ad.block)))
    (hfs : Kd.C (Kd.int .i64) W AF fs.length fs) (hfc : fs.length ≤ cF) (hfl : fs.length ≤ 100) (hfA : ∀ ad, AF = some ad → ¬ (ad.block = g ∨ (ok ad.block ∧ B ≤ ad.block))) (hfw : ∀ i, 0 ≤ rd fs i ∧ rd fs i ≤ 100)
    (hft : from_ ≤ to_) (htl : to_ ≤ xs.length) :
    Calls Tryd.prog 38 #[.pointer (some ⟨g, 0, none⟩), .slice A xs.length c, .int .i64 from_, .int .i64 to_, .slice AF fs.length cF] W (Wpost B ok W g n (32 * (to_ - from_) + 9)) := by
  have HW := Aside0.mk (Wacc.start h hB hf)
  have HX := Aside0.mk hx
  have HXA := Aside0.mk hxA
  have HFS := Aside0.mk hfs
  have HFA := Aside0.mk hfA
  have HFW := Aside0.mk hfw
  clear h hf hx hxA hfs hfA hfw
  go_enter Tryd.func38, Tryd.ntmps38
  go_wp2
  go_loopg [10, 11, 12, 14, 15] (to_ - from_) (fun kq v10 v11 v12 v14 v15 wr => ∃ (i : Nat), v10 = .int .i64 i ∧ Aside0 (from_ ≤ i ∧ i ≤ to_ ∧ kq = to_ - i) ∧ Aside0 (Wacc B ok W wr g n (32 * (i - from_))))
  case atStart => exact ⟨from_, rfl, ⟨by omega, hft, rfl⟩, ⟨by simpa using HW.out⟩⟩
  case round =>
    obtain ⟨i, rfl, HK, HW⟩ := hrel
    have hki := HK.out.2.1
    have hkf := HK.out.1
    rcases Nat.lt_or_ge i to_ with hi | hi
    · go_wp2
      obtain ⟨wo, rfl⟩ : ∃ wo : World, wo = wr := ⟨_, rfl⟩
      obtain ⟨go, rfl⟩ : ∃ go : Nat, go = gk := ⟨_, rfl⟩
      go_loopg [11, 12, 14, 15, 22] fs.length (fun kq v11 v12 v14 v15 v22 wr => ∃ (j : Nat) (x d : Int), v11 = .int .i64 x ∧ v12 = .int .i64 d ∧ v22 = .int .i64 j ∧ Aside0 (j ≤ fs.length ∧ kq = fs.length - j ∧ 0 ≤ x ∧ x ≤ (to_ : Int) - i) ∧ Aside0 (Wacc B ok W wr g n (32 * (i - from_))))
      case atStart => exact ⟨0, 0, 0, rfl, rfl, rfl, ⟨by omega, rfl, by omega, by omega⟩, HW⟩
      case round =>
        clear HW
        obtain ⟨j, x, d, rfl, rfl, rfl, HJ, HW⟩ := hrel
        have hjl := HJ.out.1
        have hx0 := HJ.out.2.2.1
        have hx1 := HJ.out.2.2.2
        rcases Nat.lt_or_ge j fs.length with hj | hj
        · have HF1 := Aside0.mk (HW.out.turn.C HFS.out HFA.out)
          obtain ⟨ad, hA, hc⟩ := Kd.at_int HF1.out (j : Int) (by omega) (by omega)
          subst hA
          simp only [Int.toNat_natCast] at hc
          obtain ⟨r, hr, hr0, hr1⟩ := repeats_any xs (i : Int) (rd fs j) (by omega) (by omega) (HFW.out j).1 hxl
          have HX1 := Aside0.mk (HW.out.turn.C HX.out HXA.out)
          have HC := Aside0.mk (spec_repeats.calls 259 A c xs (i : Int) (rd fs j) r wr HX1.out hxc hr)
          clear hr
          go_wp2_with (go_at_call 49; refine HC.out.mono ?_; rintro e w3 ⟨rfl, k1⟩; have K1 := Aside0.mk (HW.out.drawn0 k1); clear k1)
          · go_roundg (fs.length - (j + 1))
            case measure => have := HJ.out; omega
            case rel => exact ⟨j + 1, (to_ : Int) - i, rd fs j, by go_num, by go_num, by go_num, ⟨by omega, rfl, by omega, by omega⟩, K1⟩
          · go_roundg (fs.length - (j + 1))
            case measure => have := HJ.out; omega
            case rel => exact ⟨j + 1, r, rd fs j, by go_num, by go_num, by go_num, ⟨by omega, rfl, by omega, by omega⟩, K1⟩
          · go_roundg (fs.length - (j + 1))
            case measure => have := HJ.out; omega
            case rel => exact ⟨j + 1, x, d, by go_num, by go_num, by go_num, ⟨by omega, rfl, by omega, by omega⟩, K1⟩
          · go_roundg (fs.length - (j + 1))
            case measure => have := HJ.out; omega
            case rel => exact ⟨j + 1, x, d, by go_num, by go_num, by go_num, ⟨by omega, rfl, by omega, by omega⟩, K1⟩
        · obtain rfl : j = fs.length := by omega
          have HX1 := Aside0.mk (HW.out.turn.C HX.out HXA.out)
          obtain ⟨ad, hA, hc⟩ := Kd.at_int HX1.out (i : Int) (by omega) (by omega)
          subst hA
          simp only [Int.toNat_natCast] at hc
          go_wp2_with (first | (go_at_call 50; refine (HW.out.symbol _ (by omega)).mono ?_; rintro e w4 ⟨rfl, k1⟩; have K2 := Aside0.mk k1; clear k1) | (go_at_call 51; refine (HW.out.call (c := 32) (fun n' h1 h2 h3 h4 => again_any B ok g n' _ _ wr h2 h3 h4 (by omega))).mono ?_; rintro e w4 ⟨rfl, k1⟩; have K3 := Aside0.mk k1; clear k1))
          · go_roundg (to_ - (i + 1))
            case measure => have := HK.out; omega
            case rel => exact ⟨i + 1, by go_num, ⟨by omega, by omega, rfl⟩, ⟨K2.out.more (by omega)⟩⟩
          · go_roundg (to_ - (i + x.toNat))
            case measure => have := HK.out; omega
            case rel => exact ⟨i + x.toNat, by go_num, ⟨by omega, by omega, rfl⟩, ⟨K3.out.more (by omega)⟩⟩
    · obtain rfl : i = to_ := by omega
      go_wp2_with (go_at_call 50; refine (HW.out.symbol _ (by omega)).mono ?_; rintro e w4 ⟨rfl, k1⟩; have K2 := Aside0.mk k1; clear k1)
      go_end0
      exact K2.out.post
end Go.Proofs.YtnodmobblamlgaaDoor
