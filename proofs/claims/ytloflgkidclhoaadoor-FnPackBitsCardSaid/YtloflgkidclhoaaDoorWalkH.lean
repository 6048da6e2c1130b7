/- The walk of laws.FnPackBits at the dump of this seat. -/
import Derived.Test.YtloflgkidclhoaaDoorWalkF
import Derived.Test.YtloflgkidclhoaaDoorWalkG
namespace Go.Proofs.YtloflgkidclhoaaDoor
open Go.RowKit Go.Proofs.YtloflgkidclhoaaDoorW.PrintWords Go.Proofs.YtloflgkidclhoaaDoorW.PrintLast Go.Proofs.YtloflgkidclhoaaDoorW.PrintMore
set_option linter.unusedVariables false
set_option linter.unusedSimpArgs false

theorem str_seven : ((strOfNums [7]).toList == [7]) = true := by decide +kernel

theorem unp_seven : unp [0, 7] = some [7] := by
  rw [unp_cons]; simp [unp_nil]

theorem pack_seven (w : World) (hs : Sent w) :
    Calls Tryd.prog 6 #[.slice (some ⟨w.heap.size, 0, none⟩) 2 2] (w.alloc (.cells #[.int .u8 0, .int .u8 7] 5)) fun e w' => ∃ A c, e = .returned (.tuple #[.slice A 1 c, .bool true]) ∧ Kd.C (Kd.int .u8) w' A 1 [7] ∧ Below w.heap.size w w' := by
  have hb : Below w.heap.size w (w.alloc (.cells #[.int .u8 0, .int .u8 7] 5)) := below_alloc (Below.refl _ _) _
  have hC : Kd.C (Kd.int .u8) (w.alloc (.cells #[.int .u8 0, .int .u8 7] 5)) (some ⟨w.heap.size, 0, none⟩) 2 [0, 7] := C_of_blk (blk_new w _) rfl (by decide) rfl
  refine (pack_any (some ⟨w.heap.size, 0, none⟩) 2 [0, 7] _ hC (by decide) (by decide) (by decide) (hs.below hb)).mono fun e w' ⟨hB, hE⟩ => ?_
  rcases hE with ⟨v, D, hu, rfl, hR⟩ | ⟨hu, u, rfl, rfl⟩
  · rw [unp_seven] at hu
    obtain rfl := Option.some.inj hu
    obtain ⟨A, c, rfl, _, hC'⟩ := Kd.R_reads hR
    exact ⟨A, c, rfl, hC', hb.trans (hB.mono hb.size)⟩
  · rw [unp_seven] at hu; cases hu

set_option maxHeartbeats 800000 in
theorem runsIs_seven (A : Option Addr) (c : Nat) (w : World) (hr : Kd.C (Kd.int .u8) w A 1 [7]) :
    Calls Tryd.prog 7 #[.slice A 1 c, .bool true] w fun e w' => e = .returned (.bool true) ∧ w = w' := by
  have hcv := Kd.C_string (P := Tryd.prog) (A := A) (c := c) Tryd.underlying22 Tryd.underlying5 Tryd.underlying9 hr
  clear hr
  have s7 := str_seven
  go_enter Tryd.func7, Tryd.ntmps7
  go_wp2
  go_ret
  exact ⟨rfl, rfl⟩

theorem law_big (A : Option Addr) (n c : Nat) (W : World) (hn : 2000 < n) (hn2 : n ≤ 9223372036854775807) :
    Calls Tryd.prog 3 #[.slice A n c] W fun e w' => e = .returned (.bool true) ∧ Below W.heap.size W w' := by
  by_cases h : 2147483647 < n
  · go_enter Tryd.func3, Tryd.ntmps3
    go_wp2
    go_ret
    exact ⟨rfl, Below.refl _ _⟩
  · go_enter Tryd.func3, Tryd.ntmps3
    go_wp2
    go_ret
    exact ⟨rfl, Below.refl _ _⟩

set_option maxHeartbeats 1600000 in
theorem law_small (A : Option Addr) (c : Nat) (xs : List Int) (W : World) (hr : Kd.C (Kd.int .u8) W A xs.length xs) (hc : xs.length ≤ c) (hl : xs.length ≤ 2000) (hwf : ∀ x ∈ xs, 0 ≤ x ∧ x ≤ 255) (hs : Sent W) :
    Calls Tryd.prog 3 #[.slice A xs.length c] W fun e w' => e = .returned (.bool true) ∧ Below W.heap.size W w' := by
  have H5 := Aside0.mk (runs_any A c xs W hr hc (by omega) (rd_wf hwf))
  have HR := Aside0.mk hr
  have HS := Aside0.mk hs
  clear hr hs
  go_enter Tryd.func3, Tryd.ntmps3
  go_wp2_with fail
  refine H5.out.mono ?_
  rintro e w1 ⟨hB1, v1, D1, b1, rfl, hR1, hE1⟩
  have H6 := Aside0.mk (pack_any A c xs w1 (Kd.C_below HR.out hB1) hc (by omega) hwf (HS.out.below hB1))
  have HB1 := Aside0.mk hB1
  clear hB1 H5
  go_wp2_with fail
  refine H6.out.mono ?_
  rintro e w2 ⟨hB2, hE2⟩
  have HB2 := Aside0.mk hB2
  have HB02 := Aside0.mk (HB1.out.trans (hB2.mono HB1.out.size))
  clear hB2
  have HR1 := Aside0.mk (Kd.R_below hR1 HB2.out)
  clear hR1 H6
  rcases hE1 with ⟨rfl, hu1⟩ | ⟨rfl, hu1⟩
  · rcases hE2 with ⟨v, D, hu, rfl, hR⟩ | ⟨hu, u, rfl, rfl⟩
    · obtain rfl : D1 = D := Option.some.inj (hu1.symm.trans hu)
      obtain ⟨A2, c2, rfl, hc2, hC2⟩ := Kd.R_reads hR
      obtain ⟨A3, c3, rfl, hc3, hC3⟩ := Kd.R_reads HR1.out
      have cv2 := Kd.C_string (P := Tryd.prog) (A := A2) (c := c2) Tryd.underlying22 Tryd.underlying5 Tryd.underlying9 hC2
      have cv3 := Kd.C_string (P := Tryd.prog) (A := A3) (c := c3) Tryd.underlying22 Tryd.underlying5 Tryd.underlying9 hC3
      clear hR hC2 hC3 HR1
      have HU := Aside0.mk hu
      clear hu hu1 hwf
      go_wp2_with fail
      refine (pack_seven w2 ((HS.out.below HB02.out))).mono ?_
      rintro e w3 ⟨A7, c7, rfl, hC7, hB7⟩
      have HB7 := Aside0.mk (HB02.out.trans (hB7.mono HB02.out.size))
      have H7 := Aside0.mk (runsIs_seven A7 c7 w3 hC7)
      clear hC7 hB7
      go_wp2_with fail
      refine H7.out.mono ?_
      rintro e w4 ⟨rfl, rfl⟩
      go_wp2
      go_ret
      exact ⟨rfl, HB7.out⟩
    · rw [hu1] at hu; cases hu
  · rcases hE2 with ⟨v, D, hu, rfl, hR⟩ | ⟨hu, u, rfl, rfl⟩
    · rw [hu1] at hu; cases hu
    · have HU := Aside0.mk hu
      clear hu hu1 hwf
      go_wp2_with fail
      refine (pack_seven w2 ((HS.out.below HB02.out))).mono ?_
      rintro e w3 ⟨A7, c7, rfl, hC7, hB7⟩
      have HB7 := Aside0.mk (HB02.out.trans (hB7.mono HB02.out.size))
      have H7 := Aside0.mk (runsIs_seven A7 c7 w3 hC7)
      clear hC7 hB7
      go_wp2_with fail
      refine H7.out.mono ?_
      rintro e w4 ⟨rfl, rfl⟩
      go_wp2
      go_ret
      exact ⟨rfl, HB7.out⟩
end Go.Proofs.YtloflgkidclhoaaDoor
