/- tiff's safeReadAt. -/
import Derived.Test.YtnodmobblamlgaaDoorKDecA
import Derived.Deep.RegionHeld3
namespace Go.Proofs.YtnodmobblamlgaaDoor
open Go.RowKit Go.Proofs.YtnodmobblamlgaaDoorW.PrintWords Go.Proofs.YtnodmobblamlgaaDoorW.PrintLast Go.Proofs.YtnodmobblamlgaaDoorW.PrintMore
set_option linter.unusedVariables false
set_option linter.unusedSimpArgs false

theorem nilAhead_readAt (a : Addr) (w : World) : (nilAhead 312 71 (.pointer (some a)) "ReadAt").run Tryd.prog w = .ok (some false) w := by kernel_rfl
theorem method_readAt (a : Addr) (w : World) : (method 312 71 (.pointer (some a)) "ReadAt").run Tryd.prog w = .ok (78, .pointer (some a)) w := by kernel_rfl

set_option maxRecDepth 100000 in
set_option maxHeartbeats 1600000 in
theorem safe_any (g : Nat) (A : Option Addr) (c n : Nat) (xs : List Int) (N off : Nat) (i p : Int) (W : World) (hN : xs.length = N) (hb : W.heap[g]? = some (rdr A N c i p))
    (hn1 : 1 ≤ n) (hn2 : n ≤ 100000) (hin : off + n ≤ N) (hc : N ≤ c) (hl : N ≤ 13000000) (hr : Kd.C (Kd.int .u8) W A N xs) :
    Calls Tryd.prog 42 #[.iface 71 (.pointer (some ⟨g, 0, none⟩)), .int .u64 n, .int .i64 off] W fun e w' => ∃ gb, e = .returned (.tuple #[.slice (some ⟨gb, 0, none⟩) n n, .nilIface]) ∧
      Kd.C (Kd.int .u8) w' (some ⟨gb, 0, none⟩) n ((xs.drop off).take n) ∧ Below W.heap.size W w' := by
  have hmk := run_make_row' (P := Tryd.prog) 26 5 (.int .u8 0) 1 Tryd.underlying26 info5x rfl .u64 .u64 n (by omega) (by omega)
  have hlt : (n : Int) < 10485760 := by omega
  have hge : ¬ ((n : Int) < 0) := by omega
  have nA := nilAhead_readAt
  have mR := method_readAt
  have hsz : (madeCells #[Value.int .u8 0] n).size = n := by simp [size_madeCells]
  have HRA := Aside0.mk (readAt_any g W.heap.size A c n n (madeCells #[Value.int .u8 0] n) xs N off i p (W.alloc (.cells (madeCells #[Value.int .u8 0] n) 5)) hN (blk_alloc hb _) (by simp only [World.alloc, Array.getElem?_push_size]) (by omega) (by omega) (by omega) hin hc (by omega) (Kd.C_below hr ((Below.refl _ _).alloc (Nat.le_refl _) _)))
  have HL := Aside0.mk (show ((xs.drop off).take n).length = n by rw [List.length_take, List.length_drop]; omega)
  have HA := Aside0.mk ((Below.refl W.heap.size W).alloc (Nat.le_refl _) (.cells (madeCells #[Value.int .u8 0] n) 5))
  clear hb hr hN hsz
  go_enter Tryd.func42, Tryd.ntmps42
  go_wp2_with (go_at_call 78; refine HRA.out.mono ?_; rintro e w1 ⟨rfl, k1⟩; have K1 := Aside0.mk k1; clear k1)
  go_ret2
  obtain ⟨k1, cur', k2, k3, k4⟩ := K1.out
  exact ⟨_, rfl, C_of_blk k2 HL.out (by omega) k4, k1.below HA.out HA.out.size (fun k hk => by omega)⟩
end Go.Proofs.YtnodmobblamlgaaDoor
