/- laws.FnConfig walked: true, whatever the picture and the colours. -/
import Derived.Test.YtnodmobblamlgaaDoorKConfB
import Derived.Test.YtnodmobblamlgaaDoorKWriteZ
namespace Go.Proofs.YtnodmobblamlgaaDoor
open Go.RowKit Go.Proofs.YtnodmobblamlgaaDoor.PFnConfig Go.Proofs.YtnodmobblamlgaaDoorW.PrintWords Go.Proofs.YtnodmobblamlgaaDoorW.PrintLast Go.Proofs.YtnodmobblamlgaaDoorW.PrintMore
set_option linter.unusedVariables false
set_option linter.unusedSimpArgs false

theorem shades_any (A : Option Addr) (cap : Nat) (xs : List Int) (w : World) (hC : Kd.C (Kd.int .u8) w A xs.length xs) (hc : xs.length ≤ cap) (hb : ∀ x ∈ xs, 0 ≤ x ∧ x ≤ 255) :
    Calls Tryd.prog 8 #[.slice A xs.length cap] w fun e w' => ∃ (A' : Option Addr) (c' : Nat) (ps : List S57), e = .returned (.slice A' 256 c') ∧ 256 ≤ c' ∧ Kd.C k57 w' A' 256 ps ∧ ps.length = 256 ∧ (∀ p ∈ ps, ShadeP p) ∧ Below w.heap.size w w' := by
  obtain ⟨ps, h1, h2, h3⟩ := shades_f xs hb
  refine (laws_shades.calls 257 A cap xs ps w hC hc h1).mono ?_
  rintro e w' ⟨v, rfl, hr, hB⟩
  obtain ⟨A', c', rfl, h4, h5⟩ := Kd.R_reads hr
  rw [h2] at h4 h5 ⊢
  exact ⟨A', c', ps, rfl, h4, h5, h2, h3, hB⟩
theorem dots_any (A : Option Addr) (cap : Nat) (ps : List S57) (w : World) (hl : ps.length = 256) (hs : ∀ p ∈ ps, ShadeP p) (hC : Kd.C k76 w A 256 (ps.map shadeOf)) (hc : 256 ≤ cap) :
    Calls Tryd.prog 14 #[.slice A 256 cap] w fun e w' => ∃ (A' : Option Addr) (c' : Nat), e = .returned (.slice A' 256 c') ∧ 256 ≤ c' ∧ Kd.C k57 w' A' 256 ps ∧ Below w.heap.size w w' := by
  have hll : (ps.map shadeOf).length = 256 := by rw [List.length_map, hl]
  have hb : ∀ s ∈ ps.map shadeOf, ByteS s := fun s h => by
    obtain ⟨p, hp, rfl⟩ := List.mem_map.1 h
    exact (hs p hp).byte.1
  have hm : (ps.map shadeOf).map dotOf = ps := by
    rw [List.map_map]
    exact (List.map_congr_left (fun p hp => (hs p hp).byte.2)).trans (List.map_id ps)
  have h := laws_dots.calls _ A cap (ps.map shadeOf) _ w (by rw [hll]; exact hC) (by omega) (dots_f _ (by omega) hb)
  rw [hll, hm] at h
  refine h.mono ?_
  rintro e w' ⟨v, rfl, hr, hB⟩
  obtain ⟨A', c', rfl, h4, h5⟩ := Kd.R_reads hr
  rw [hl] at h4 h5 ⊢
  exact ⟨A', c', rfl, h4, h5, hB⟩
theorem same_any (A B : Option Addr) (c d : Nat) (ps : List S57) (w : World) (hl : ps.length = 256) (hA : Kd.C k57 w A 256 ps) (hc : 256 ≤ c) (hB : Kd.C k57 w B 256 ps) (hd : 256 ≤ d) :
    Calls Tryd.prog 13 #[.slice A 256 c, .slice B 256 d] w fun e w' => e = .returned (.bool true) ∧ Drawn0 w w' := by
  have h := spec_Same.calls _ A c ps B d ps true w (by rw [hl]; exact hA) (by omega) (by rw [hl]; exact hB) (by omega) (same_f ps (by omega))
  rwa [hl] at h

set_option maxRecDepth 100000 in
theorem config_big (A : Option Addr) (len cap : Nat) (f a b : Int) (W : World) (h : 2000 < len) (hm : len ≤ 9223372036854775807) :
    Calls Tryd.prog 4 #[.int .u32 f, .int .u8 a, .int .u8 b, .slice A len cap] W fun e w' => e = .returned (.bool true) ∧ Below W.heap.size W w' := by
  have HB := Aside0.mk (Below.refl W.heap.size W)
  have h2 : (2000 : Int) < (len : Int) := by omega
  by_cases h3 : (2147483647 : Int) < (len : Int)
  · go_enter Tryd.func4, Tryd.ntmps4
    go_wp2_with (fail)
    go_ret
    exact ⟨rfl, HB.out⟩
  · go_enter Tryd.func4, Tryd.ntmps4
    go_wp2_with (fail)
    go_ret
    exact ⟨rfl, HB.out⟩

theorem samples_c {b0 : Bool} {wide high : Nat} {x3 x4 x5 x6 : Int} {b7 : Bool} {tw th rows : Nat} (h : Shp b0 wide high x3 x4 x5 x6 b7 tw th rows) (W : World) :
    Calls Tryd.prog 7 #[.agg #[.bool b0, .int .i64 wide, .int .i64 high, .int .i64 x3, .int .i64 x4, .int .i64 x5, .int .i64 x6, .bool b7, .int .i64 tw, .int .i64 th, .int .i64 rows], .slice none 0 0] W fun e w' => ∃ (A : Option Addr) (c : Nat) (ss : List Int), e = .returned (.slice A (wide * high * chN x3 x4) c) ∧ wide * high * chN x3 x4 ≤ c ∧ Kd.C (Kd.int .i64) w' A (wide * high * chN x3 x4) ss ∧ Below W.heap.size W w' := by
  have hd := h.depth
  refine (samplesOf_any b0 wide high x3 x4 x5 x6 b7 tw th rows (chN x3 x4) W (chan_f _ _ _ _ _ _ _ _ _ _ _) (by have := h.w2; omega) (by have := h.h2; omega) (chN_le x3 x4).2 (by omega) (by omega)).mono ?_
  rintro e w' ⟨v, ys, rfl, hr, hn, hb⟩
  obtain ⟨A, c, rfl, h1, h2⟩ := Kd.R_reads hr
  rw [hn] at h1 h2 ⊢
  exact ⟨A, c, ys, rfl, h1, h2, hb⟩

set_option maxRecDepth 100000 in
set_option maxHeartbeats 60000000 in
theorem config_small (A : Option Addr) (cap : Nat) (xs : List Int) (f a b : Nat) (W : World) (hC : Kd.C (Kd.int .u8) W A xs.length xs) (hc : xs.length ≤ cap) (hb : ∀ x ∈ xs, 0 ≤ x ∧ x ≤ 255) (h : xs.length ≤ 2000) (hf : f < 4294967296) (ha : a < 256) (hb' : b < 256)
    (l3 : W.cell? ⟨5, 3, none⟩ = some (.int .u32 2)) (l4 : W.cell? ⟨5, 4, none⟩ = some (.int .u32 4)) :
    Calls Tryd.prog 4 #[.int .u32 f, .int .u8 a, .int .u8 b, .slice A xs.length cap] W fun e w' => e = .returned (.bool true) ∧ Below W.heap.size W w' := by
  have HC := Aside0.mk hC
  have HCB := Aside0.mk (And.intro hc hb)
  have HL3 := Aside0.mk l3
  have HL4g := Aside0.mk l4
  have HSH := Aside0.mk (shapeOf_any f a b W hf ha hb')
  clear hC hc hb hf ha hb' l3 l4
  have h1 : ¬ ((2147483647 : Int) < (xs.length : Int)) := by omega
  have h2 : ¬ ((2000 : Int) < (xs.length : Int)) := by omega
  have RSH := Aside0.mk (fun w (hw : Below W.heap.size W w) => shades_any A cap xs w (Kd.C_below HC.out hw) HCB.out.1 HCB.out.2)
  go_enter Tryd.func4, Tryd.ntmps4
  go_upto_region 6 with (go_at_call 5; (with_reducible refine HSH.out.mono ?_); rintro e w1 ⟨b0, wide, high, x3, x4, x5, x6, b7, tw, th, rows, k1, rfl, k2⟩; have HS := Aside0.mk k1; have K1 := Aside0.mk k2; clear k1 k2)
  have hk2 := Go.Deep.blk_alloc_new w1 (.cells #[.bool b0, .int .i64 wide, .int .i64 high, .int .i64 x3, .int .i64 x4, .int .i64 x5, .int .i64 x6, .bool b7, .int .i64 tw, .int .i64 th, .int .i64 rows] 24)
  have HB2 := Aside0.mk (K1.out.alloc K1.out.size (.cells #[.bool b0, .int .i64 wide, .int .i64 high, .int .i64 x3, .int .i64 x4, .int .i64 x5, .int .i64 x6, .bool b7, .int .i64 tw, .int .i64 th, .int .i64 rows] 24))
  have HK2 := Aside0.mk hk2
  clear hk2 HSH
  have HGB := Aside0.mk K1.out.size
  clear K1
  generalize w1.alloc (.cells #[.bool b0, .int .i64 wide, .int .i64 high, .int .i64 x3, .int .i64 x4, .int .i64 x5, .int .i64 x6, .bool b7, .int .i64 tw, .int .i64 th, .int .i64 rows] 24) = w2 at HB2 HK2 ⊢
  generalize w1.heap.size = gb at HK2 HGB ⊢
  go_upto_region 7 with (go_at_call 8; (with_reducible refine (RSH.out _ HB2.out).mono ?_); rintro e w3 ⟨A3, c3, ps, rfl, k1, k2, k3, k4, k5⟩; have HPL := Aside0.mk k1; have HPC := Aside0.mk k2; have HPS := Aside0.mk (And.intro k3 k4); have HB3 := Aside0.mk (HB2.out.trans (k5.mono HB2.out.size)); have HK3 := Aside0.mk (blk_below k5 HK2.out); clear k1 k2 k3 k4 k5)
  clear HK2 HB2 RSH HC HCB
  obtain ⟨c0, c1, c2, c3', c4, c5, c6, c7, c8, c9, c10⟩ := tiff_cells HK3.out
  have RS7 := Aside0.mk (fun w => samples_c HS.out w)
  have HX3 := Aside0.mk (Below.refl w3.heap.size w3)
  go_cut [11, 12, 13, 14, 15] from 16 to 39 (fun v11 v12 v13 v14 v15 wx => v11 = .int .i64 (kindN x3 x4 x5) ∧ v12 = .int .i64 wide ∧ v13 = .int .i64 high ∧ v15 = .int .i64 0 ∧ Aside0 (ShOut w3 x3 ps v14 wx))
  case first =>
    -- <REG
    have HPCd : Aside0 (Kd.C k57 w3.drew A3 256 ps) := ⟨HPC.out⟩
    have HB3d : Aside0 (Below W.heap.size W w3.drew) := ⟨HB3.out.drew⟩
    have HS3 : Aside0 (∀ w', Below w3.drew.heap.size w3.drew w' → Below w3.heap.size w3 w') := ⟨fun w' k => ⟨k.os, k.tape, k.output, k.size, k.block⟩⟩
    clear c0 c1 c2 c3' c4 c5 c6 c7 c8 c9 c10 RS7 HX3
    refine start_ (n := 17) (S := fun w' => w'.heap[gb]? = some (.cells #[.bool b0, .int .i64 wide, .int .i64 high, .int .i64 x3, .int .i64 x4, .int .i64 x5, .int .i64 x6, .bool b7, .int .i64 tw, .int .i64 th, .int .i64 rows] 24 (0, 0))) (ds := []) #[false, false, false, false, false, false, false, false, false, false, false, false, false, false, false, false, false] (by kernel_rfl) rfl rfl HK3.out (fun hh0 => ?_)
    generalize w3.drew = wd at HPCd HB3d HS3 hh0 ⊢
    refine take_ (i := 0) (N := some 29) (v := ?_) (a' := ?_) #[true, false, false, false, false, false, false, false, false, false, false, false, false, false, false, false, false] rfl rfl (by kernel_rfl) (fun _ _ _ h => h) (Or.inl ⟨by rfl, ?_⟩) hh0 ?_ ?_
    rotate_left
    · rintro w' s2
      obtain ⟨c0, c1, c2, c3, c4, c5, c6, c7, c8, c9, c10⟩ := tiff_cells s2
      go_simp
      with_reducible rfl
    rotate_left
    · simp only [Act.put, List.setIfInBounds_toArray, List.set_cons_zero, List.set_cons_succ, i64_w, i32_w]
      rfl
    refine take_ (i := 1) (N := some 30) (v := ?_) (a' := ?_) #[true, true, false, false, false, false, false, false, false, false, false, false, false, false, false, false, false] rfl rfl (by kernel_rfl) (fun _ _ _ h => h) (Or.inl ⟨by rfl, ?_⟩) hh0 ?_ ?_
    rotate_left
    · rintro w' s2
      obtain ⟨c0, c1, c2, c3, c4, c5, c6, c7, c8, c9, c10⟩ := tiff_cells s2
      go_simp
      with_reducible rfl
    rotate_left
    · simp only [Act.put, List.setIfInBounds_toArray, List.set_cons_zero, List.set_cons_succ, i64_w, i32_w]
      rfl
    refine pure_ (i := 3) (N := some 32) (v := ?_) (a' := ?_) #[true, true, false, true, false, false, false, false, false, false, false, false, false, false, false, false, false] rfl rfl (by kernel_rfl) (fun _ _ _ h => h) (Or.inl ⟨by rfl, ?_⟩) ?_ ?_
    rotate_left
    · intro w'
      go_simp
      with_reducible rfl
    rotate_left
    · simp only [Act.put, List.setIfInBounds_toArray, List.set_cons_zero, List.set_cons_succ, i64_w, i32_w]
      rfl
    refine one_ (i := 2) (N := some 31) #[true, true, true, true, false, false, false, false, false, false, false, false, false, false, false, false, false] rfl rfl (by kernel_rfl) (by decide) (fun K hK => ?_)
    refine goes_ Tryd.func7 (by kernel_rfl) rfl #[.agg #[.bool b0, .int .i64 wide, .int .i64 high, .int .i64 x3, .int .i64 x4, .int .i64 x5, .int .i64 x6, .bool b7, .int .i64 tw, .int .i64 th, .int .i64 rows], .slice none 0 0] (by rfl) rfl rfl (by simp [Act.eval]) ?_
    refine (samples_c HS.out _).mono ?_
    rintro e w4 ⟨A4, c4, ss, rfl, k1, k2, k3⟩
    refine ⟨_, rfl, ?_⟩
    have HL4 := Aside0.mk k1
    have HS4 := Aside0.mk k2
    have HP4 := Aside0.mk (Kd.C_below HPCd.out k3)
    have HB4 := Aside0.mk k3
    have HB4W := Aside0.mk (HB3d.out.trans (k3.mono HB3d.out.size))
    refine hK.out _ _ (blk_below k3 hh0) (fun hh1 => ?_)
    clear hK K k1 k2 k3
    refine norm_ (a' := ?_) ?_ ?_
    rotate_left
    · show Act.put _ (some 31) _ = _
      simp only [Act.put, List.setIfInBounds_toArray, List.set_cons_zero, List.set_cons_succ, i64_w, i32_w]
      rfl
    refine one_ (i := 4) (N := some 33) #[true, true, true, true, true, false, false, false, false, false, false, false, false, false, false, false, false] rfl rfl (by kernel_rfl) (by decide) (fun K hK => ?_)
    refine goes_ Tryd.func6 (by kernel_rfl) rfl #[.agg #[.bool b0, .int .i64 wide, .int .i64 high, .int .i64 x3, .int .i64 x4, .int .i64 x5, .int .i64 x6, .bool b7, .int .i64 tw, .int .i64 th, .int .i64 rows], .slice A4 (wide * high * chN x3 x4) c4, .slice A3 256 c3, .int .i64 1] (by rfl) rfl rfl (by simp [Act.eval]) ?_
    refine (Write_any b0 wide high x3 x4 x5 x6 b7 tw th rows HS.out A4 A3 c4 c3 (chN x3 x4) ss _ (chan_f _ _ _ _ _ _ _ _ _ _ _) (chN_le _ _).1 (chN_le _ _).2 ps HP4.out (cols_in ps HPS.out.2) HS4.out HL4.out).mono ?_
    rintro e w5 ⟨rs, pl, sz, A5, c5', bs, k1, k2, k3, k4, rfl, k5, k6, k7⟩
    refine ⟨_, rfl, ?_⟩
    have HFD := Aside0.mk (filed_of HS.out HPS.out.1 (cols_in ps HPS.out.2) k1 k3 k4)
    have HC5 := Aside0.mk k6
    have HL5 := Aside0.mk k5
    have HB5 := Aside0.mk k7
    have HB5W := Aside0.mk (HB4W.out.trans (k7.mono HB4W.out.size))
    refine hK.out _ _ (blk_below k7 hh1) (fun hh2 => ?_)
    clear hK K k1 k2 k3 k4 k5 k6 k7
    refine norm_ (a' := ?_) ?_ ?_
    rotate_left
    · show Act.put _ (some 33) _ = _
      simp only [Act.put, List.setIfInBounds_toArray, List.set_cons_zero, List.set_cons_succ, i64_w, i32_w]
      rfl
    refine one_ (i := 5) (N := some 34) #[true, true, true, true, true, true, false, false, false, false, false, false, false, false, false, false, false] rfl rfl (by kernel_rfl) (by decide) (fun K hK => ?_)
    refine goes_ Tryd.func11 (by kernel_rfl) rfl #[.slice A5 bs.length c5'] (by rfl) rfl rfl (by simp [Act.eval]) ?_
    refine (Config_any HFD.out HPS.out.1 HPS.out.2 _ A5 c5' HC5.out HL5.out (cell_below HB5W.out HL3.out) (cell_below HB5W.out HL4g.out)).mono ?_
    rintro e w6 ⟨v, rfl, k1, k2⟩
    refine ⟨_, rfl, ?_⟩
    have KE := Aside0.mk (show ShOut w3 x3 ps v w6 from ⟨HS3.out _ (HB4.out.trans ((HB5.out.trans (k1.mono HB5.out.size)).mono HB4.out.size)), k2⟩)
    refine hK.out _ _ (blk_below k1 hh2) (fun hh3 => ?_)
    clear hK K k1 k2
    refine norm_ (a' := ?_) ?_ ?_
    rotate_left
    · show Act.put _ (some 34) _ = _
      simp only [Act.put, List.setIfInBounds_toArray, List.set_cons_zero, List.set_cons_succ, i64_w, i32_w]
      rfl
    refine pure_ (i := 6) (N := some 28) (v := ?_) (a' := ?_) #[true, true, true, true, true, true, true, false, false, false, false, false, false, false, false, false, false] rfl rfl (by kernel_rfl) (fun _ _ _ h => h) (Or.inl ⟨by rfl, ?_⟩) ?_ ?_
    rotate_left
    · intro w'
      go_simp
      with_reducible rfl
    rotate_left
    · simp only [Act.put, List.setIfInBounds_toArray, List.set_cons_zero, List.set_cons_succ, i64_w, i32_w]
      rfl
    refine pure_ (i := 7) (N := some 35) (v := ?_) (a' := ?_) #[true, true, true, true, true, true, true, true, false, false, false, false, false, false, false, false, false] rfl rfl (by kernel_rfl) (fun _ _ _ h => h) (Or.inl ⟨by rfl, ?_⟩) ?_ ?_
    rotate_left
    · intro w'
      go_simp
      with_reducible rfl
    rotate_left
    · simp only [Act.put, List.setIfInBounds_toArray, List.set_cons_zero, List.set_cons_succ, i64_w, i32_w]
      rfl
    refine pure_ (i := 8) (N := some 36) (v := ?_) (a' := ?_) #[true, true, true, true, true, true, true, true, true, false, false, false, false, false, false, false, false] rfl rfl (by kernel_rfl) (fun _ _ _ h => h) (Or.inl ⟨by rfl, ?_⟩) ?_ ?_
    rotate_left
    · intro w'
      go_simp
      with_reducible rfl
    rotate_left
    · simp only [Act.put, List.setIfInBounds_toArray, List.set_cons_zero, List.set_cons_succ, i64_w, i32_w]
      rfl
    refine pure_ (i := 9) (N := some 37) (v := ?_) (a' := ?_) #[true, true, true, true, true, true, true, true, true, true, false, false, false, false, false, false, false] rfl rfl (by kernel_rfl) (fun _ _ _ h => h) (Or.inl ⟨by rfl, ?_⟩) ?_ ?_
    rotate_left
    · intro w'
      go_simp
      with_reducible rfl
    rotate_left
    · simp only [Act.put, List.setIfInBounds_toArray, List.set_cons_zero, List.set_cons_succ, i64_w, i32_w]
      rfl
    refine pure_ (i := 10) (N := some 38) (v := ?_) (a' := ?_) #[true, true, true, true, true, true, true, true, true, true, true, false, false, false, false, false, false] rfl rfl (by kernel_rfl) (fun _ _ _ h => h) (Or.inl ⟨by rfl, ?_⟩) ?_ ?_
    rotate_left
    · intro w'
      go_simp
      with_reducible rfl
    rotate_left
    · simp only [Act.put, List.setIfInBounds_toArray, List.set_cons_zero, List.set_cons_succ, i64_w, i32_w]
      rfl
    refine pure_ (i := 11) (N := some 39) (v := ?_) (a' := ?_) #[true, true, true, true, true, true, true, true, true, true, true, true, false, false, false, false, false] rfl rfl (by kernel_rfl) (fun _ _ _ h => h) (Or.inl ⟨by rfl, ?_⟩) ?_ ?_
    rotate_left
    · intro w'
      go_simp
      with_reducible rfl
    rotate_left
    · simp only [Act.put, List.setIfInBounds_toArray, List.set_cons_zero, List.set_cons_succ, i64_w, i32_w]
      rfl
    refine pure_ (i := 12) (N := some 11) (v := ?_) (a' := ?_) #[true, true, true, true, true, true, true, true, true, true, true, true, true, false, false, false, false] rfl rfl (by kernel_rfl) (fun _ _ _ h => h) (Or.inl ⟨by rfl, ?_⟩) ?_ ?_
    rotate_left
    · intro w'
      go_simp
      with_reducible rfl
    rotate_left
    · simp only [Act.put, List.setIfInBounds_toArray, List.set_cons_zero, List.set_cons_succ, i64_w, i32_w]
      rfl
    refine pure_ (i := 13) (N := some 12) (v := ?_) (a' := ?_) #[true, true, true, true, true, true, true, true, true, true, true, true, true, true, false, false, false] rfl rfl (by kernel_rfl) (fun _ _ _ h => h) (Or.inl ⟨by rfl, ?_⟩) ?_ ?_
    rotate_left
    · intro w'
      go_simp
      with_reducible rfl
    rotate_left
    · simp only [Act.put, List.setIfInBounds_toArray, List.set_cons_zero, List.set_cons_succ, i64_w, i32_w]
      rfl
    refine pure_ (i := 14) (N := some 13) (v := ?_) (a' := ?_) #[true, true, true, true, true, true, true, true, true, true, true, true, true, true, true, false, false] rfl rfl (by kernel_rfl) (fun _ _ _ h => h) (Or.inl ⟨by rfl, ?_⟩) ?_ ?_
    rotate_left
    · intro w'
      go_simp
      with_reducible rfl
    rotate_left
    · simp only [Act.put, List.setIfInBounds_toArray, List.set_cons_zero, List.set_cons_succ, i64_w, i32_w]
      rfl
    refine pure_ (i := 15) (N := some 14) (v := ?_) (a' := ?_) #[true, true, true, true, true, true, true, true, true, true, true, true, true, true, true, true, false] rfl rfl (by kernel_rfl) (fun _ _ _ h => h) (Or.inl ⟨by rfl, ?_⟩) ?_ ?_
    rotate_left
    · intro w'
      go_simp
      with_reducible rfl
    rotate_left
    · simp only [Act.put, List.setIfInBounds_toArray, List.set_cons_zero, List.set_cons_succ, i64_w, i32_w]
      rfl
    refine pure_ (i := 16) (N := some 15) (v := ?_) (a' := ?_) #[true, true, true, true, true, true, true, true, true, true, true, true, true, true, true, true, true] rfl rfl (by kernel_rfl) (fun _ _ _ h => h) (Or.inl ⟨by rfl, ?_⟩) ?_ ?_
    rotate_left
    · intro w'
      go_simp
      with_reducible rfl
    rotate_left
    · simp only [Act.put, List.setIfInBounds_toArray, List.set_cons_zero, List.set_cons_succ, i64_w, i32_w]
      rfl
    refine done_ (by kernel_rfl) ?_
    go_wp2_with (fail)
    go_meet
    exact ⟨rfl, rfl, rfl, rfl, KE⟩
    -- >
  case rest =>
  obtain ⟨rfl, rfl, rfl, rfl, HSO⟩ := hcut
  clear c0 c1 c2 c3' c4 c5 c6 c7 c8 c9 c10 RS7 HX3 HL3 HL4g
  obtain ⟨w6, rfl⟩ : ∃ w6 : World, w6 = wc := ⟨_, rfl⟩
  have hB6 := HSO.out.1
  have HK6 := Aside0.mk (blk_below hB6 HK3.out)
  have HB6 := Aside0.mk (HB3.out.trans (hB6.mono HB3.out.size))
  have HC6 := Aside0.mk (Kd.C_below HPC.out hB6)
  have hv := HSO.out.2
  clear hB6 HSO HB3 HK3 HPC
  have h3 : x3 = 0 ∨ x3 = 1 ∨ x3 = 2 ∨ x3 = 3 := by have := HS.out.colour; omega
  have RK := Aside0.mk (fun w => spec_Tiff_KindOf.calls 1 b0 wide high x3 x4 x5 x6 b7 tw th rows (kindN x3 x4 x5) w (kind_f b0 wide high x3 x4 x5 x6 b7 tw th rows h3))
  clear h3
  obtain ⟨c0, c1, c2, c3', c4, c5, c6, c7, c8, c9, c10⟩ := tiff_cells HK6.out
  obtain ⟨kk, hkk⟩ : ∃ kk, kk = kindN x3 x4 x5 := ⟨_, rfl⟩
  rw [← hkk] at RK ⊢
  clear hkk
  rcases hv with ⟨hx, rfl⟩ | ⟨rfl, A6, c6', rfl, k1, k2⟩
  · have hx1 : (x3 != 3) = true := by simpa using hx
    have hx2 : (x3 == 3) = false := by simpa using hx
    clear hx
    go_wp2_with (go_at_call 12; (with_reducible refine (RK.out _).mono ?_); rintro e w7 ⟨rfl, k1⟩; have HB7 := Aside0.mk (HB6.out.trans (k1.mono HB6.out.size)); (obtain ⟨d0, d1, d2, d3, d4, d5, d6, d7, d8, d9, d10⟩ := tiff_cells (blk_below k1 HK6.out)); clear k1)
    go_ret
    exact ⟨rfl, HB7.out⟩
  · have HL6 := Aside0.mk k1
    have HS6 := Aside0.mk k2
    clear k1 k2
    go_wp2_with (first | (go_at_call 12; (with_reducible refine (RK.out _).mono ?_); rintro e w7 ⟨rfl, k1⟩; have HB7 := Aside0.mk (HB6.out.trans (k1.mono HB6.out.size)); (obtain ⟨d0, d1, d2, d3, d4, d5, d6, d7, d8, d9, d10⟩ := tiff_cells (blk_below k1 HK6.out)); have RD := Aside0.mk (dots_any A6 c6' ps w7 HPS.out.1 HPS.out.2 (Kd.C_below HS6.out k1) HL6.out); have HC7 := Aside0.mk (Kd.C_below HC6.out k1); clear k1) | (go_at_call 14; (with_reducible refine RD.out.mono ?_); rintro e w8 ⟨A8, c8', rfl, k1, k2, k3⟩; have HB8 := Aside0.mk (HB7.out.trans (k3.mono HB7.out.size)); have RS := Aside0.mk (same_any A8 A3 c8' c3 ps w8 HPS.out.1 k2 k1 (Kd.C_below HC7.out k3) HPL.out); clear k1 k2 k3) | (go_at_call 13; (with_reducible refine RS.out.mono ?_); rintro e w9 ⟨rfl, k1⟩; have HB9 := Aside0.mk (HB8.out.trans (k1.below.mono HB8.out.size)); clear k1))
    go_ret
    exact ⟨rfl, HB9.out⟩
end Go.Proofs.YtnodmobblamlgaaDoor
