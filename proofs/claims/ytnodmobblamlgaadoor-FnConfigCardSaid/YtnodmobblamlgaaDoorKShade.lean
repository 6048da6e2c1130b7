/- The palette's colours as impl.Config tells them: color.RGBA64.RGBA. -/
import Derived.Test.YtnodmobblamlgaaDoorKReads
import Derived.Deep.Heap
namespace Go.Proofs.YtnodmobblamlgaaDoor
open Go.RowKit Go.Proofs.YtnodmobblamlgaaDoorW.PrintWords Go.Proofs.YtnodmobblamlgaaDoorW.PrintLast Go.Proofs.YtnodmobblamlgaaDoorW.PrintMore
set_option linter.unusedVariables false
set_option linter.unusedSimpArgs false

theorem results_tmp4 {fn : Func} {t u v x : Tmp} (h : fn.results = #[.tmp t, .tmp u, .tmp v, .tmp x]) (tmps : Array Value) (P : Program) (w : World) :
    (results fn tmps).run P w = .ok (.tuple #[tmps.getD t undef, tmps.getD u undef, tmps.getD v undef, tmps.getD x undef]) w := by
  simp [results, h]
theorem results_tmp5 {fn : Func} {t u v x y : Tmp} (h : fn.results = #[.tmp t, .tmp u, .tmp v, .tmp x, .tmp y]) (tmps : Array Value) (P : Program) (w : World) :
    (results fn tmps).run P w = .ok (.tuple #[tmps.getD t undef, tmps.getD u undef, tmps.getD v undef, tmps.getD x undef, tmps.getD y undef]) w := by
  simp [results, h]
set_option maxHeartbeats 1600000 in
theorem RGBA_any (r g b a : Int) (hr : 0 ≤ r ∧ r < 65536) (hg : 0 ≤ g ∧ g < 65536) (hb : 0 ≤ b ∧ b < 65536) (ha : 0 ≤ a ∧ a < 65536) (W : World) :
    Calls Tryd.prog 106 #[.agg #[.int .u16 r, .int .u16 g, .int .u16 b, .int .u16 a]] W fun e w' => e = .returned (.tuple #[.int .u32 r, .int .u32 g, .int .u32 b, .int .u32 a]) ∧ Below W.heap.size W w' := by
  have hB := Aside0.mk ((Below.refl W.heap.size W).alloc (Nat.le_refl _) (.cells #[.int .u16 r, .int .u16 g, .int .u16 b, .int .u16 a] 149))
  have e1 : IntKind.u32.wrap r = r := by rw [IntKind.wrap_u32]; omega
  have e2 : IntKind.u32.wrap g = g := by rw [IntKind.wrap_u32]; omega
  have e3 : IntKind.u32.wrap b = b := by rw [IntKind.wrap_u32]; omega
  have e4 : IntKind.u32.wrap a = a := by rw [IntKind.wrap_u32]; omega
  have E := Aside0.mk (And.intro e1 (And.intro e2 (And.intro e3 e4)))
  clear e1 e2 e3 e4
  go_enter Tryd.func106, Tryd.ntmps106
  go_upto_region 1 with (fail)
  have hbk := Go.Deep.blk_alloc_new W (.cells #[.int .u16 r, .int .u16 g, .int .u16 b, .int .u16 a] 149)
  have c0 := (blk_cell hbk 0).trans (show _ = some (Value.int .u16 r) from rfl)
  have c1 := (blk_cell hbk 1).trans (show _ = some (Value.int .u16 g) from rfl)
  have c2 := (blk_cell hbk 2).trans (show _ = some (Value.int .u16 b) from rfl)
  have c3 := (blk_cell hbk 3).trans (show _ = some (Value.int .u16 a) from rfl)
  clear hbk
  go_quiet (fail)
  go_wp2
  (try simp only [Exit.inBlock, Exit.then]); refine bodyPost_ret (results_tmp4 rfl _ _ _) rfl ?_
  exact ⟨rfl, pw_below_drewN hB.out nq⟩
end Go.Proofs.YtnodmobblamlgaaDoor
