/- (Tiff).packed of an own row: an own row. -/
import Derived.Test.YtnodmobblamlgaaDoorEPacked
namespace Go.Proofs.YtnodmobblamlgaaDoor
open Go.RowKit Go.Proofs.YtnodmobblamlgaaDoor.PFnConfig Go.Proofs.YtnodmobblamlgaaDoorW.PrintWords Go.Proofs.YtnodmobblamlgaaDoorW.PrintLast Go.Proofs.YtnodmobblamlgaaDoorW.PrintMore
set_option linter.unusedVariables false
set_option linter.unusedSimpArgs false

/-- An own row of bytes, of at most so many. -/
def OwnBytes (W : World) (B bound : Nat) (e : Ending) (w' : World) : Prop :=
  ∃ v ys, e = .returned v ∧ Kd.R (Kd.int .u8) 5 w' B (fun _ => True) v ys ∧ ys.length ≤ bound ∧ Below W.heap.size W w'
theorem NewBytes.own {W0 W w' : World} {B bound : Nat} {e : Ending} (h : NewBytes W bound e w') (hb : Below W0.heap.size W0 W) (hB : B ≤ W0.heap.size) : OwnBytes W0 B bound e w' := by
  obtain ⟨v, ys, rfl, hR, hl, hk⟩ := h
  exact ⟨v, ys, rfl, Kd.R_lower hR (Nat.le_trans hB hb.size), hl, hb.trans (hk.mono hb.size)⟩

set_option maxHeartbeats 3200000 in
theorem packed_own (b0 : Bool) (x1 x2 x3 x4 x5 x6 : Int) (b7 : Bool) (x8 x9 x10 : Int) (A : Option Addr) (c : Nat) (xs : List Int) (W : World) (hx : Kd.C (Kd.int .u8) W A xs.length xs) (hxc : xs.length ≤ c) (B : Nat) (hB : B ≤ W.heap.size) (hR : Kd.R (Kd.int .u8) 5 W B (fun _ => True) (.slice A xs.length c) xs) (hxl : xs.length ≤ 20000) (hx0 : 0 < xs.length)
    (hp : x6 = 1 ∨ x6 = 5 ∨ x6 = 8 ∨ x6 = 32946 ∨ x6 = 32773) :
    Calls Tryd.prog 17 #[.agg #[.bool b0, .int .i64 x1, .int .i64 x2, .int .i64 x3, .int .i64 x4, .int .i64 x5, .int .i64 x6, .bool b7, .int .i64 x8, .int .i64 x9, .int .i64 x10], .slice A xs.length c, .int .i64 1] W (OwnBytes W B 300000) := by
  obtain ⟨o, ho⟩ : ∃ o : Obj, o = .cells #[.bool b0, .int .i64 x1, .int .i64 x2, .int .i64 x3, .int .i64 x4, .int .i64 x5, .int .i64 x6, .bool b7, .int .i64 x8, .int .i64 x9, .int .i64 x10] 24 := ⟨_, rfl⟩
  have HB : Aside0 (Below W.heap.size W (W.alloc o)) := ⟨(Below.refl _ _).alloc (Nat.le_refl _) _⟩
  have HX : Aside0 (Kd.C (Kd.int .u8) (W.alloc o) A xs.length xs) := ⟨Kd.C_below hx HB.out⟩
  have H27 := Aside0.mk (Coded_any A c xs (W.alloc o) HX.out hxc hxl hx0)
  have H28 := Aside0.mk (Packed_any A c xs (W.alloc o) HX.out hxc hxl hx0)
  obtain ⟨k, r, hr, hrl⟩ := run_all xs 2 1 (by omega) (by omega) (by omega)
  have H29 := Aside0.mk (spec_Run.calls k A c xs 2 1 r (W.alloc o) HX.out hxc hr)
  have HR0 : Aside0 (Kd.R (Kd.int .u8) 5 (W.alloc o) B (fun _ => True) (.slice A xs.length c) xs) := ⟨Kd.R_below hR HB.out⟩
  clear hx hr hR
  subst ho
  rcases hp with rfl | rfl | rfl | rfl | rfl
  · go_enter Tryd.func17, Tryd.ntmps17
    go_wp2
    go_ret
    exact ⟨_, xs, rfl, HR0.out, by omega, HB.out⟩
  · go_enter Tryd.func17, Tryd.ntmps17
    go_wp2_with (go_at_call 27; refine H27.out.mono ?_; rintro e w1 k1; have K1 := Aside0.mk (k1.own HB.out hB); obtain ⟨v1, ys, rfl, _, _, _⟩ := k1)
    go_ret
    exact K1.out
  · go_enter Tryd.func17, Tryd.ntmps17
    go_wp2_with (go_at_call 28; refine H28.out.mono ?_; rintro e w1 k1; have K1 := Aside0.mk (k1.own HB.out hB); obtain ⟨v1, ys, rfl, _, _, _⟩ := k1)
    go_ret
    exact K1.out
  · go_enter Tryd.func17, Tryd.ntmps17
    go_wp2_with (go_at_call 28; refine H28.out.mono ?_; rintro e w1 k1; have K1 := Aside0.mk (k1.own HB.out hB); obtain ⟨v1, ys, rfl, _, _, _⟩ := k1)
    go_ret
    exact K1.out
  · go_enter Tryd.func17, Tryd.ntmps17
    go_wp2_with (go_at_call 29; refine H29.out.mono ?_; rintro e w1 ⟨v1, rfl, k1, k4⟩; have K1 := Aside0.mk k1; have K4 := Aside0.mk k4; clear k1 k4)
    go_ret
    exact ⟨v1, r, rfl, Kd.R_lower K1.out (Nat.le_trans hB HB.out.size), by omega, HB.out.trans (K4.out.mono HB.out.size)⟩
end Go.Proofs.YtnodmobblamlgaaDoor
