/- The walk of laws.FnPackBitsBack at the dump of this seat. -/
import Derived.Test.YtloflgkidclhoaaDoorWalkF
import Derived.Test.YtloflgkidclhoaaDoorRunPlain
namespace Go.Proofs.YtloflgkidclhoaaDoor
open Go.RowKit Go.Proofs.YtloflgkidclhoaaDoorW.PrintWords Go.Proofs.YtloflgkidclhoaaDoorW.PrintLast Go.Proofs.YtloflgkidclhoaaDoorW.PrintMore
set_option linter.unusedVariables false
set_option linter.unusedSimpArgs false

theorem back_big (A : Option Addr) (n c : Nat) (m q : Int) (W : World) (hn : 2000 < n) (hn2 : n ≤ 9223372036854775807) :
    Calls Tryd.prog 4 #[.slice A n c, .int .u8 m, .int .u8 q] W fun e w' => e = .returned (.bool true) ∧ Below W.heap.size W w' := by
  by_cases h : 2147483647 < n
  · go_enter Tryd.func4, Tryd.ntmps4
    go_wp2
    go_ret
    exact ⟨rfl, Below.refl _ _⟩
  · go_enter Tryd.func4, Tryd.ntmps4
    go_wp2
    go_ret
    exact ⟨rfl, Below.refl _ _⟩

/-- spec.Run by its printed contract. -/
theorem run_any (A : Option Addr) (c : Nat) (xs : List Int) (most : Nat) (a2 : Int) (w : World) (hr : Kd.C (Kd.int .u8) w A xs.length xs) (hc : xs.length ≤ c) (hm : 1 ≤ most) (hm2 : most ≤ 128) (hl : xs.length ≤ 2000000) (hw : ∀ x ∈ xs, 0 ≤ x ∧ x ≤ 255) :
    Calls Tryd.prog 8 #[.slice A xs.length c, .int .i64 most, .int .i64 a2] w fun e w' => ∃ (v : Value) (r : List Int), e = .returned v ∧ Kd.R (Kd.int .u8) 5 w' w.heap.size (fun _ => True) v r ∧ Below w.heap.size w w' ∧
      unp r = some xs ∧ (∀ x ∈ r, 0 ≤ x ∧ x ≤ 255) ∧ r.length ≤ 3 * xs.length := by
  obtain ⟨k, r, hf, h1, h2, h3⟩ := run_all xs most a2 hm hm2 hl hw
  exact (PFnPackBitsBack.spec_Run.calls k A c xs most a2 r w hr hc hf).mono fun e w' ⟨v, he, hR, hB⟩ => ⟨v, r, he, hR, hB, h1, h2, h3⟩

set_option maxHeartbeats 1600000 in
theorem back_small (A : Option Addr) (c : Nat) (xs : List Int) (m q : Int) (W : World) (hr : Kd.C (Kd.int .u8) W A xs.length xs) (hc : xs.length ≤ c) (hl : xs.length ≤ 2000) (hwf : ∀ x ∈ xs, 0 ≤ x ∧ x ≤ 255) (hs : Sent W) (hm : 0 ≤ m) (hm2 : m ≤ 255) (hq : 0 ≤ q) (hq2 : q ≤ 255) :
    Calls Tryd.prog 4 #[.slice A xs.length c, .int .u8 m, .int .u8 q] W fun e w' => e = .returned (.bool true) ∧ Below W.heap.size W w' := by
  have H8 := Aside0.mk (run_any A c xs (1 + m % 128).toNat q W hr hc (by omega) (by omega) (by omega) hwf)
  have HR := Aside0.mk hr
  have HS := Aside0.mk hs
  have hcast : (((1 + m % 128).toNat : Nat) : Int) = 1 + m % 128 := by omega
  rw [hcast] at H8
  clear hcast hr hs
  go_enter Tryd.func4, Tryd.ntmps4
  go_wp2_with fail
  refine H8.out.mono ?_
  rintro e w1 ⟨v1, r, rfl, hR1, hB1, hu, hwr, hlr⟩
  obtain ⟨A1, c1, rfl, hc1, hC1⟩ := Kd.R_reads hR1
  have H6 := Aside0.mk (pack_any A1 c1 r w1 hC1 hc1 (by omega) hwr (HS.out.below hB1))
  have HB1 := Aside0.mk hB1
  have HU := Aside0.mk hu
  clear hB1 H8 hR1 hC1 hu hwr
  go_wp2_with fail
  refine H6.out.mono ?_
  rintro e w2 ⟨hB2, hE2⟩
  have HB2 := Aside0.mk (HB1.out.trans (hB2.mono HB1.out.size))
  clear hB2
  rcases hE2 with ⟨v, D, hu, rfl, hR⟩ | ⟨hu, u, rfl, rfl⟩
  · obtain rfl : xs = D := Option.some.inj (HU.out.symm.trans hu)
    obtain ⟨A2, c2, rfl, hc2, hC2⟩ := Kd.R_reads hR
    have cv2 := Kd.C_string (P := Tryd.prog) (A := A2) (c := c2) Tryd.underlying22 Tryd.underlying5 Tryd.underlying9 hC2
    have cv3 := Kd.C_string (P := Tryd.prog) (A := A) (c := c) Tryd.underlying22 Tryd.underlying5 Tryd.underlying9 (Kd.C_below HR.out HB2.out)
    clear hR hC2 hwf hu
    go_wp2
    go_ret
    exact ⟨rfl, HB2.out⟩
  · rw [HU.out] at hu; cases hu
end Go.Proofs.YtloflgkidclhoaaDoor
