/- The size and the kind of a picture told without the pixels (laws.FnConfig): for every four numbers, under the listed variables as the program's text lays them, the law returns true and its arguments read as they did. -/
import Derived.Test.YtnodmobblamlgaaDoorKFrame
import Derived.Test.YtnodmobblamlgaaDoorKConfC
namespace Go.Proofs.YtnodmobblamlgaaDoor
open Go.ChangeShapes Go.WideShapes Go.ChangeAt Go.RowKit Go.Proofs.YtnodmobblamlgaaDoorW.PrintWords
set_option linter.unusedVariables false
set_option linter.unusedSimpArgs false

theorem config_walk (f a b : Int) (A : Option Addr) (len cap : Nat) (xs : List Int) (W : World) (hl : xs.length = len) (hc : len ≤ cap) (hm : len ≤ 9223372036854775807) (hC : Kd.C (Kd.int .u8) W A len xs) (hw : ∀ x ∈ xs, (Lit.int .u8 x).wf = true) (hs : Lens W)
    (wf : (Lit.int .u32 f).wf = true) (wa : (Lit.int .u8 a).wf = true) (wb : (Lit.int .u8 b).wf = true) :
    Calls Tryd.prog 4 #[.int .u32 f, .int .u8 a, .int .u8 b, .slice A len cap] W fun e w' => e = .returned (.bool true) ∧ Below W.heap.size W w' := by
  subst hl
  have bf := bounds_u32 wf
  have ba := bounds_u8 wa
  have bb := bounds_u8 wb
  rcases Nat.lt_or_ge 2000 xs.length with h | h
  · exact config_big A xs.length cap f a b W h hm
  · have h := config_small A cap xs f.toNat a.toNat b.toNat W hC hc (fun x hx => bounds_u8 (hw x hx)) h (by omega) (by omega) (by omega) hs.1 hs.2
    rwa [Int.toNat_of_nonneg bf.1, Int.toNat_of_nonneg ba.1, Int.toNat_of_nonneg bb.1] at h

set_option maxRecDepth 100000 in
theorem config_lifted (os : Os) (started : os.Started) (H : Type) (enc : TypeId × Value → H) :
    ReturnsInHanded {} Tryd.checked os 4 .any (fun w args => (Rows.fnConfigSpec.pre enc Tryd.prog Tryd.f4 [] false w args ∧ laidMetH Tryd.prog laid4 w) ∧ sizedMet enc Tryd.prog Tryd.f4 (OpenSpec.ofChange Rows.fnConfigSpec) false w args)
      (Rows.fnConfigSpec.post enc Tryd.prog Tryd.f4 false true false false) := by
  refine returnsInHanded_of_change_and (C := Tryd.checked) (X := fun w _ => laidMetH Tryd.prog laid4 w) (fun _ _ _ hh h => h.of_heap hh) own started (by kernel_rfl) Tryd.func4
    (ChangeSpec.witness_shaped (enc := enc) (C := Tryd.checked) (os := os) (X := fun w _ => laidMetH Tryd.prog laid4 w) false (World.doorLaid Tryd.prog 78 os) #[.int .u32 0, .int .u8 0, .int .u8 0, .slice none 0 0] 8 rfl (World.shaped_of_RefB (by kernel_rfl) (by kernel_rfl)) (by kernel_rfl) (by kernel_rfl) (by kernel_rfl) (door_met4 os _)) ?_
  intro W base args ds gs before hval0 hW _ _ hL _
  have hval : ∀ (j : Nat) t v, Tryd.f4.params[j]? = some t → args[j]? = some v → Value.okWide Tryd.prog W .any base t v := hval0
  have hW' := hW
  obtain ⟨p, q, hA0, hV, rfl, hfz, hnd⟩ := hW
  have hA : DataW.TrodAll enc Tryd.prog W 0 (fun _ => true) true Tryd.f4.params.toList args.toList ds p := hA0
  rw [Tryd.params4] at hA hval
  obtain ⟨v0, vs0, d0, ds0, p0, q0, hargs, rfl, rfl, h0, r0⟩ := trodAll_cons hA
  obtain ⟨v1, vs1, d1, ds1, p1, q1, rfl, rfl, rfl, h1, r1⟩ := trodAll_cons r0
  obtain ⟨v2, vs2, d2, ds2, p2, q2, rfl, rfl, rfl, h2, r2⟩ := trodAll_cons r1
  obtain ⟨v3, vs3, d3, ds3, p3, q3, rfl, rfl, rfl, h3, r3⟩ := trodAll_cons r2
  obtain ⟨rfl, rfl, rfl⟩ := trodAll_nil r3
  obtain rfl : args = #[v0, v1, v2, v3] := by cases args; simp_all
  have hV1 := hV
  obtain ⟨g, t, cs, fuel, dg, pg, rfl, _, _, _, _, _⟩ := trodVars_one hV
  obtain ⟨a0, rfl, rfl, rfl, w0⟩ := open_int Tryd.underlying22 (hval 0 22 v0 rfl rfl) h0
  obtain ⟨a1, rfl, rfl, rfl, w1⟩ := open_int Tryd.underlying5 (hval 1 5 v1 rfl rfl) h1
  obtain ⟨a2, rfl, rfl, rfl, w2⟩ := open_int Tryd.underlying5 (hval 2 5 v2 rfl rfl) h2
  obtain ⟨a3, len3, cap3, rfl⟩ := okWide_slice Tryd.underlying26 (hval 3 26 v3 rfl rfl)
  have lt3 : ∀ x ∈ p3, x.block < W.heap.size := by obtain ⟨m, hm⟩ := h3; exact DataW.trod_lt m _ _ _ hm
  obtain ⟨xs, hl, hc, hm, hC, hw⟩ := open_row_ints Tryd.underlying26 Tryd.underlying5 cells5 h3
  clear hA0 hval0
  refine (config_walk a0 a1 a2 a3 len3 cap3 xs W hl hc hm hC hw (lens_of4 hL) w0 w1 w2).mono fun e W' ⟨he, bel⟩ => ?_
  subst he
  exact ⟨_, rfl, _, _, _, [], _, _, hW', trodAll_mk1 (shut_bool Tryd.underlying4 _), (trodAll_cons_mk (shut_int Tryd.underlying22 w0) (trodAll_cons_mk (shut_int Tryd.underlying5 w1) (trodAll_cons_mk (shut_int Tryd.underlying5 w2) (trodAll_cons_mk (Below.trod laidOut (by kernel_rfl) (of_decide_eq_true (by kernel_rfl)) h3 bel lt3) trodAll_mk0)))), Below.trodVars laidOut bel (by kernel_rfl) hV1, bel.frame _, fun h => by cases h⟩

theorem config_said : Rows.FnConfigSaid :=
  OpenClaim.holds_of_wide 4 Tryd.f4 rfl rfl rfl rfl rfl rfl rfl ⟨rfl, rfl, rfl, rfl, rfl⟩ rfl rfl rfl rfl rfl (by kernel_rfl) Tryd.func4 (by kernel_rfl)
    (of_decide_eq_true (by kernel_rfl)) (by unfold Func.isWrapper; first | (rw [if_pos (by decide +kernel)]; kernel_rfl) | (rw [if_neg (by decide +kernel)]; exact ⟨rfl, rfl⟩))
    (fun os started H enc _ => config_lifted os started H enc)

/-- The card. -/
theorem config_card : Rows.FnConfigCardSaid :=
  Claim7.holds_tied_plain_at .later [] _ _ _ _ config_said (fun _ h => by cases h) (by kernel_rfl) (fun _ h => by cases h) fnConfig_row_tie rfl ⟨rfl, rfl⟩ (by kernel_rfl) rfl
    (fun f fn hf hfn => by
      obtain rfl : f = 4 := Option.some.inj ((show Tryd.prog.funcNamed "loop.example/pub-g03432/laws.FnConfig" = some 4 by kernel_rfl).symm.trans hf) |>.symm
      obtain rfl : fn = Tryd.f4 := (Option.some.inj (Tryd.func4.symm.trans hfn)).symm
      exact ⟨by kernel_rfl, fun j t ht => by
        rw [Tryd.params4] at ht
        have hm : t ∈ [22, 5, 5, 26] := by simpa using Array.mem_of_getElem? ht
        have hall : ([22, 5, 5, 26].all fun u => !Tryd.prog.wantsStandIn u) = true := by kernel_rfl
        exact (show Tryd.prog.wantsStandIn t = false by simpa using List.all_eq_true.1 hall t hm)⟩)
    (by kernel_rfl)
#print axioms config_card
end Go.Proofs.YtnodmobblamlgaaDoor
