/- PackBits there and back (laws.FnPackBitsBack): for every byte slice and every two bytes, under the listed sentinels as the program's text lays them, the law returns true and the argument reads as it did. -/
import Derived.Test.YtloflgkidclhoaaDoorFrame
import Derived.Test.YtloflgkidclhoaaDoorWalkI
namespace Go.Proofs.YtloflgkidclhoaaDoor
open Go.ChangeShapes Go.WideShapes Go.ChangeAt Go.RowKit Go.Proofs.YtloflgkidclhoaaDoorW.PrintWords
set_option linter.unusedVariables false
set_option linter.unusedSimpArgs false

theorem wf_u8' {xs : List Int} (h : ∀ x ∈ xs, (Lit.int .u8 x).wf = true) (x : Int) (hx : x ∈ xs) : 0 ≤ x ∧ x ≤ 255 := by
  exact bounds_u8 (h x hx)

theorem packBack_walk (a : Option Addr) (len cap : Nat) (m q : Int) (xs : List Int) (W : World) (hl : xs.length = len) (hc : len ≤ cap) (hm : len ≤ 9223372036854775807) (hC : Kd.C (Kd.int .u8) W a len xs) (hw : ∀ x ∈ xs, (Lit.int .u8 x).wf = true) (hs : Sent W)
    (wm : (Lit.int .u8 m).wf = true) (wq : (Lit.int .u8 q).wf = true) :
    Calls Tryd.prog 4 #[.slice a len cap, .int .u8 m, .int .u8 q] W fun e w' => e = .returned (.bool true) ∧ Below W.heap.size W w' := by
  subst hl
  have bm := bounds_u8 wm
  have bq := bounds_u8 wq
  rcases Nat.lt_or_ge 2000 xs.length with h | h
  · exact back_big a xs.length cap m q W h hm
  · exact back_small a cap xs m q W hC hc h (wf_u8' hw) hs bm.1 bm.2 bq.1 bq.2

set_option maxRecDepth 100000 in
theorem packBack_lifted (os : Os) (started : os.Started) (H : Type) (enc : TypeId × Value → H) :
    ReturnsInHanded {} Tryd.checked os 4 .any (fun w args => (Rows.fnPackBitsBackSpec.pre enc Tryd.prog Tryd.f4 [] false w args ∧ laidMetH Tryd.prog laid3 w) ∧ sizedMet enc Tryd.prog Tryd.f4 (OpenSpec.ofChange Rows.fnPackBitsBackSpec) false w args)
      (Rows.fnPackBitsBackSpec.post enc Tryd.prog Tryd.f4 false true false false) := by
  refine returnsInHanded_of_change_and (C := Tryd.checked) (X := fun w _ => laidMetH Tryd.prog laid3 w) (fun _ _ _ hh h => h.of_heap hh) own started (by kernel_rfl) Tryd.func4
    (ChangeSpec.witness_shaped (enc := enc) (C := Tryd.checked) (os := os) (X := fun w _ => laidMetH Tryd.prog laid3 w) false (World.doorLaid Tryd.prog 104 os) #[.slice none 0 0, .int .u8 0, .int .u8 0] 8 rfl (World.shaped_of_RefB (by kernel_rfl) (by kernel_rfl)) (by kernel_rfl) (by kernel_rfl) (by kernel_rfl) (door_met os _)) ?_
  intro W base args ds gs before hval0 hW _ _ hL _
  have hval : ∀ (j : Nat) t v, Tryd.f4.params[j]? = some t → args[j]? = some v → Value.okWide Tryd.prog W .any base t v := hval0
  have hW' := hW
  obtain ⟨p, q, hA0, hV, rfl, hfz, hnd⟩ := hW
  have hA : DataW.TrodAll enc Tryd.prog W 0 (fun _ => true) true Tryd.f4.params.toList args.toList ds p := hA0
  rw [Tryd.params4] at hA hval
  obtain ⟨v0, vs0, d0, ds0, p0, q0, hargs, rfl, rfl, h0, r0⟩ := trodAll_cons hA
  obtain ⟨v1, vs1, d1, ds1, p1, q1, rfl, rfl, rfl, h1, r1⟩ := trodAll_cons r0
  obtain ⟨v2, vs2, d2, ds2, p2, q2, rfl, rfl, rfl, h2, r2⟩ := trodAll_cons r1
  obtain ⟨rfl, rfl, rfl⟩ := trodAll_nil r2
  obtain rfl : args = #[v0, v1, v2] := by cases args; simp_all
  obtain ⟨rfl, rfl⟩ := trodVars_none hV
  obtain ⟨a0, len0, cap0, rfl⟩ := okWide_slice Tryd.underlying22 (hval 0 22 v0 rfl rfl)
  have lt0 : ∀ x ∈ p0, x.block < W.heap.size := by obtain ⟨m, hm⟩ := h0; exact DataW.trod_lt m _ _ _ hm
  obtain ⟨xs, hl, hc, hm, hC, hw⟩ := open_row_ints Tryd.underlying22 Tryd.underlying5 cells5 h0
  obtain ⟨a1, rfl, rfl, rfl, w1⟩ := open_int Tryd.underlying5 (hval 1 5 v1 rfl rfl) h1
  obtain ⟨a2, rfl, rfl, rfl, w2⟩ := open_int Tryd.underlying5 (hval 2 5 v2 rfl rfl) h2
  clear hA0 hval0
  refine (packBack_walk a0 len0 cap0 a1 a2 xs W hl hc hm hC hw (sent_of_laid hL) w1 w2).mono fun e W' ⟨he, bel⟩ => ?_
  subst he
  exact ⟨_, rfl, _, _, _, [], _, [], hW', trodAll_mk1 (shut_bool Tryd.underlying4 _), (trodAll_cons_mk (Below.trod laidOut (by kernel_rfl) (of_decide_eq_true (by kernel_rfl)) h0 bel lt0) (trodAll_cons_mk (shut_int Tryd.underlying5 w1) (trodAll_cons_mk (shut_int Tryd.underlying5 w2) trodAll_mk0))), rfl, bel.frame _, fun h => by cases h⟩

theorem packBack_said : Rows.FnPackBitsBackSaid :=
  OpenClaim.holds_of_wide 4 Tryd.f4 rfl rfl rfl rfl rfl rfl rfl ⟨rfl, rfl, rfl, rfl, rfl⟩ rfl rfl rfl rfl rfl (by kernel_rfl) Tryd.func4 (by kernel_rfl)
    (of_decide_eq_true (by kernel_rfl)) (by unfold Func.isWrapper; first | (rw [if_pos (by decide +kernel)]; kernel_rfl) | (rw [if_neg (by decide +kernel)]; exact ⟨rfl, rfl⟩))
    (fun os started H enc _ => packBack_lifted os started H enc)

/-- The card. -/
theorem packBack_card : Rows.FnPackBitsBackCardSaid :=
  Claim7.holds_tied_plain_at .later [] _ _ _ _ packBack_said (fun _ h => by cases h) (by kernel_rfl) (fun _ h => by cases h) fnPackBitsBack_row_tie rfl ⟨rfl, rfl⟩ (by kernel_rfl) rfl
    (fun f fn hf hfn => by
      obtain rfl : f = 4 := Option.some.inj ((show Tryd.prog.funcNamed "loop.example/pub-g03432/laws.FnPackBitsBack" = some 4 by kernel_rfl).symm.trans hf) |>.symm
      obtain rfl : fn = Tryd.f4 := (Option.some.inj (Tryd.func4.symm.trans hfn)).symm
      exact ⟨by kernel_rfl, fun j t ht => by
        rw [Tryd.params4] at ht
        have hm : t ∈ [22, 5, 5] := by simpa using Array.mem_of_getElem? ht
        have hall : ([22, 5, 5].all fun u => !Tryd.prog.wantsStandIn u) = true := by kernel_rfl
        exact (show Tryd.prog.wantsStandIn t = false by simpa using List.all_eq_true.1 hall t hm)⟩)
    (by kernel_rfl)
#print axioms packBack_card
end Go.Proofs.YtloflgkidclhoaaDoor
