/- Contracts of slices.Clone and of the reader's methods at the dump of this seat. -/
import Derived.Test.YtloflgkidclhoaaDoorProg
import Derived.Test.YtloflgkidclhoaaDoorWMore
import Derived.WalkSpells
import Derived.WalkLawsBesides
namespace Go.Proofs.YtloflgkidclhoaaDoor
open Go.RowKit Go.Proofs.YtloflgkidclhoaaDoorW.PrintWords Go.Proofs.YtloflgkidclhoaaDoorW.PrintLast Go.Proofs.YtloflgkidclhoaaDoorW.PrintMore
set_option linter.unusedVariables false
set_option linter.unusedSimpArgs false

theorem info5 : (Tryd.prog.info? 5).map (fun i => (i.zero, i.size, i.bytes)) = some (some (.int .u8 0), 1, 1) := by kernel_rfl

set_option maxHeartbeats 800000 in
theorem clone_nil (c0 : Nat) (w : World) :
    Calls Tryd.prog 10 #[.slice none 0 c0] w fun e w' => e = .returned (.slice none 0 0) ∧ w = w' := by
  have q22 : ∀ (w : World) (a : Option Addr) (n c n' c' : Nat), (binOp .eql 22 (.slice a n c) (.slice none n' c')).run Tryd.prog w = .ok (.bool a.isNone) w := fun w a n c n' c' => Lib.run_eql_slice_nil w _ _ a n c n' c' Tryd.underlying22
  go_enter Tryd.func10, Tryd.ntmps10
  go_wp2
  go_ret
  exact ⟨rfl, rfl⟩

set_option maxHeartbeats 800000 in
theorem clone_some (ad : Addr) (c0 : Nat) (l0 : List Int) (w : World) (hr0 : Kd.C (Kd.int .u8) w (some ad) l0.length l0) (hc0 : l0.length ≤ c0) (hl : l0.length ≤ 140737488355328) :
    Calls Tryd.prog 10 #[.slice (some ad) l0.length c0] w fun e w' => ∃ v : Value, e = .returned v ∧ Kd.R (Kd.int .u8) 5 w' w.heap.size (fun _ => True) v l0 ∧ Below w.heap.size w w' := by
  have q22 : ∀ (w : World) (a : Option Addr) (n c n' c' : Nat), (binOp .eql 22 (.slice a n c) (.slice none n' c')).run Tryd.prog w = .ok (.bool a.isNone) w := fun w a n c n' c' => Lib.run_eql_slice_nil w _ _ a n c n' c' Tryd.underlying22
  have HR0 := Aside0.mk hr0
  clear hr0
  have HL := Aside0.mk hl
  clear hl
  go_enter Tryd.func10, Tryd.ntmps10
  go_wp2_with (first | ((with_reducible refine gate_dst (N := 5) rfl ?_); refine Kd.R_lit (Kd.int .u8) _ 5 ?hg (N := 5) ?hd (xs := ([] : List Int)) (inner := []) (ok := fun _ => True) (okp := fun _ => True) ?hr ?hp (fun _ hk => hk) trivial (Below.refl w.heap.size w) (Nat.le_refl _) (by simp) ?_; (case hd => rfl); (case hg => rfl); (case hr => first | (go_simp; done) | (go_simp; rfl)); (case hp => exact (Reps.none _ _)); intro v5 w2 ho3 hb hg_ hnew_; have HO := Aside0.mk ho3; have HB := Aside0.mk hb; clear hg_ hnew_ ho3 hb) | ((with_reducible refine gate_builtin (b := .append) (xs := #[.tmp 5, .tmp 6]) rfl ?_); at_builtin; refine Kd.R_append_rows (Kd.int .u8) (w0 := w) w.heap.size rfl (.tmp 5) (.tmp 6) 22 5 (.int .u8 0) 1 rfl Tryd.underlying22 info5 rfl (by decide) (by omega) v5 [] l0 _ _ _ (fun _ => True) (fun _ => False) rfl rfl HO.out (Kd.C_below HR0.out HB.out) (fun _ _ h => h) (fun _ h => h.elim) (fun _ _ => trivial) HB.out HB.out.size (by have := HL.out; simp; omega) ?_; intro v7 w3 ho hb hg hat; have HO2 := Aside0.mk ho; have HB2 := Aside0.mk hb; clear ho hb hg hat))
  go_ret
  exact ⟨_, rfl, HO2.out, HB2.out⟩
end Go.Proofs.YtloflgkidclhoaaDoor
